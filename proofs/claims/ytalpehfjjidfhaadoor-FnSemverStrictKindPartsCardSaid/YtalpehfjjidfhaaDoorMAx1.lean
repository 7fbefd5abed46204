-- Written by a program of this session (wip/tools/myprint.py over the kit's print).
import Derived.Test.YtalpehfjjidfhaaDoorMAx0
namespace Go.Proofs.YtalpehfjjidfhaaDoor.MA
open Go.RowKit Go.Proofs.YtalpehfjjidfhaaDoorW.PrintWords Go.Proofs.YtalpehfjjidfhaaDoorW.PrintLast Go.Proofs.YtalpehfjjidfhaaDoorW.PrintMore Go.Proofs.YtalpehfjjidfhaaDoor
attribute [local go_sem] max2_int min2_int max_two min_two max_three min_three max_four min_four   -- for this text's walks alone
set_option linter.unusedVariables false
set_option linter.unusedSimpArgs false

/-! ### semver_zzIndex: function 163 -/
def semver_zzIndex.l0 : Nat → ByteArray → ByteArray → Int → Option (Int)
  | 0, _, _, _ => none
  | k + 1, x0, x1, x5 => if (wrap64 (x5 + (x1.size : Int))) ≤ (x0.size : Int) then (if 0 ≤ x5 then (if x5 ≤ (wrap64 (x5 + (x1.size : Int))) then (if (x0.extract (x5 : Int).toNat ((wrap64 (x5 + (x1.size : Int))) : Int).toNat).toList = x1.toList then (some x5) else (semver_zzIndex.l0 k x0 x1 (wrap64 (x5 + 1)))) else (none)) else (none)) else (some (-1))
def semver_zzIndex.f (k : Nat) (a0 : ByteArray) (a1 : ByteArray) : Option (Int) := semver_zzIndex.l0 k a0 a1 0
theorem semver_zzIndex.mono_l : ∀ k, (∀ y0 y1 y2, LeO (semver_zzIndex.l0 k y0 y1 y2) (semver_zzIndex.l0 (k + 1) y0 y1 y2))
  | 0 => fun _ _ _ r h => by simp [semver_zzIndex.l0] at h
  | k + 1 => by
    have ih0 := semver_zzIndex.mono_l k
    · intro y0 y1 y2
      unfold semver_zzIndex.l0
      repeat' first
      | (with_reducible exact ih0 _ _ _)
      | (with_reducible exact LeO.refl _)
      | (with_reducible exact LeO.none _)
      | (with_reducible refine LeO.ite ?_ ?_)
      | (with_reducible refine LeO.bind ?_ (fun _ => ?_))
      | exact ih0 _ _ _
      | exact LeO.none _
      | refine LeO.ite ?_ ?_
      | refine LeO.bind ?_ (fun _ => ?_)
theorem semver_zzIndex.mono : ∀ a0 a1 k, LeO (semver_zzIndex.f k a0 a1) (semver_zzIndex.f (k + 1) a0 a1) := by
  intro a0 a1 k
  have ih0 := semver_zzIndex.mono_l k
  unfold semver_zzIndex.f
  repeat' first
      | (with_reducible exact ih0 _ _ _)
      | (with_reducible exact LeO.refl _)
      | (with_reducible exact LeO.none _)
      | (with_reducible refine LeO.ite ?_ ?_)
      | (with_reducible refine LeO.bind ?_ (fun _ => ?_))
      | exact ih0 _ _ _
      | exact LeO.none _
      | refine LeO.ite ?_ ?_
      | refine LeO.bind ?_ (fun _ => ?_)
set_option maxHeartbeats 8000000 in
set_option maxRecDepth 100000 in
theorem semver_zzIndex.calls (k : Nat) (a0 : ByteArray) (a1 : ByteArray) (r : Int) (w : World) (h : semver_zzIndex.f k a0 a1 = some r) :
    Calls Tryd.prog 163 #[.string a0, .string a1] w fun e w' => e = .returned (.int .i64 r) ∧ Drawn0 w w' := by
  have H : (semver_zzIndex.l0 k a0 a1 0) = some r := h
  clear h
  have H' := Aside0.mk H
  clear H
  go_enter Tryd.func163, Tryd.ntmps163
  go_wp2
  go_loopg [5] k (fun kq v5 w' => ∃ (x5_1 : Int), v5 = .int .i64 x5_1 ∧ Aside0 (semver_zzIndex.l0 kq a0 a1 x5_1 = some r) ∧ Aside0 (kq ≤ k) ∧ Drawn0 w w')
  case atStart => exact ⟨(0), (by first | rfl | (simp; done) | (simp [*]; done)), H', ⟨Nat.le_refl _⟩, by repeat (first | exact Drawn0.refl _ | apply Drawn0.step)⟩
  case round =>
    clear H'
    try clear c1
    try clear p2
    obtain ⟨x5_1, rfl, HA, HK1, ⟨m1, rfl⟩⟩ := hrel
    cases gk with
    | zero => exact absurd HA.out (by simp [semver_zzIndex.l0])
    | succ k1 =>
      have H := HA.out
      clear HA
      simp only [semver_zzIndex.l0] at H
      by_cases c3 : (wrap64 (x5_1 + (a1.size : Int))) ≤ (a0.size : Int)
      · rw [if_pos c3] at H
        have c3b0 : decide ((wrap64 (x5_1 + (a1.size : Int))) ≤ (a0.size : Int)) = true := decide_eq_true c3
        clear c3
        by_cases c4 : 0 ≤ x5_1
        · rw [if_pos c4] at H
          have c4b0 := eq_true c4
          have c4b1 : decide (0 ≤ x5_1) = true := decide_eq_true c4
          clear c4
          by_cases c5 : x5_1 ≤ (wrap64 (x5_1 + (a1.size : Int)))
          · rw [if_pos c5] at H
            have c5b0 := eq_true c5
            have c5b1 : decide (x5_1 ≤ (wrap64 (x5_1 + (a1.size : Int)))) = true := decide_eq_true c5
            have c6b0 := eq_true (of_decide_eq_true (by first | (with_reducible assumption) | assumption) : (wrap64 (x5_1 + (a1.size : Int))) ≤ (a0.size : Int))
            by_cases c7 : (a0.extract (x5_1 : Int).toNat ((wrap64 (x5_1 + (a1.size : Int))) : Int).toNat).toList = a1.toList
            · rw [if_pos c7] at H
              have c7b0 : ((a0.extract (x5_1 : Int).toNat ((wrap64 (x5_1 + (a1.size : Int))) : Int).toNat).toList == a1.toList) = true := beq_iff_eq.mpr c7
              have c7b1 : ((a0.extract (x5_1 : Int).toNat ((wrap64 (x5_1 + (a1.size : Int))) : Int).toNat).toList != a1.toList) = false := bne_eq_false_iff_eq.mpr c7
              clear c7
              obtain rfl := Option.some.inj H
              go_wp2
              go_ret
              exact ⟨by first | rfl | (simp; done) | (simp [*]; done) | (simp [bne]; done) | (simp [bne, List.isEmpty_iff]; done) | (cases a0.toList <;> simp; done), by repeat (first | exact Drawn0.refl _ | apply Drawn0.step)⟩
            · rw [if_neg c7] at H
              have c7b0 : ((a0.extract (x5_1 : Int).toNat ((wrap64 (x5_1 + (a1.size : Int))) : Int).toNat).toList == a1.toList) = false := beq_eq_false_iff_ne.mpr c7
              have c7b1 : ((a0.extract (x5_1 : Int).toNat ((wrap64 (x5_1 + (a1.size : Int))) : Int).toNat).toList != a1.toList) = true := bne_iff_ne.mpr c7
              have H' := Aside0.mk H
              clear H
              go_wp2
              go_roundg k1
              case measure => have := HK1.out; omega
              case rel => exact ⟨(wrap64 (x5_1 + 1)), (by first | rfl | (simp; done) | (simp [*]; done)), H', ⟨by have := HK1.out; omega⟩, by repeat (first | exact Drawn0.refl _ | apply Drawn0.step)⟩
          · rw [if_neg c5] at H
            exact absurd H (by simp)
        · rw [if_neg c4] at H
          exact absurd H (by simp)
      · rw [if_neg c3] at H
        have c3b0 : decide ((wrap64 (x5_1 + (a1.size : Int))) ≤ (a0.size : Int)) = false := decide_eq_false c3
        clear c3
        obtain rfl := Option.some.inj H
        go_wp2
        go_ret
        exact ⟨by first | rfl | (simp; done) | (simp [*]; done) | (simp [bne]; done) | (simp [bne, List.isEmpty_iff]; done) | (cases a0.toList <;> simp; done), by repeat (first | exact Drawn0.refl _ | apply Drawn0.step)⟩

/-! ### semver_zzSplit: function 161 -/
def semver_zzSplit.l0 : Nat → ByteArray → ByteArray → List ByteArray → Option (List ByteArray)
  | 0, _, _, _ => none
  | k + 1, x0, x1, x5 => (semver_zzIndex.f k x0 x1).bind fun t101 => (if t101 < 0 then (if x5.length < 8796093022208 then (some (x5 ++ [x0])) else (none)) else (if 0 ≤ t101 then (if t101 ≤ (x0.size : Int) then (if x5.length < 8796093022208 then (if 0 ≤ (wrap64 (t101 + (x1.size : Int))) then (if (wrap64 (t101 + (x1.size : Int))) ≤ (x0.size : Int) then (semver_zzSplit.l0 k (x0.extract ((wrap64 (t101 + (x1.size : Int))) : Int).toNat x0.size) x1 (x5 ++ [x0.extract 0 (t101 : Int).toNat])) else (none)) else (none)) else (none)) else (none)) else (none)))
def semver_zzSplit.f (k : Nat) (a0 : ByteArray) (a1 : ByteArray) : Option (List ByteArray) := semver_zzSplit.l0 k a0 a1 ([] : List ByteArray)
theorem semver_zzSplit.mono_l : ∀ k, (∀ y0 y1 y2, LeO (semver_zzSplit.l0 k y0 y1 y2) (semver_zzSplit.l0 (k + 1) y0 y1 y2))
  | 0 => fun _ _ _ r h => by simp [semver_zzSplit.l0] at h
  | k + 1 => by
    have ih0 := semver_zzSplit.mono_l k
    · intro y0 y1 y2
      unfold semver_zzSplit.l0
      repeat' first
      | (with_reducible exact ih0 _ _ _)
      | (with_reducible exact semver_zzIndex.mono _ _ _)
      | (with_reducible exact LeO.refl _)
      | (with_reducible exact LeO.none _)
      | (with_reducible refine LeO.ite ?_ ?_)
      | (with_reducible refine LeO.bind ?_ (fun _ => ?_))
      | exact ih0 _ _ _
      | exact semver_zzIndex.mono _ _ _
      | exact LeO.none _
      | refine LeO.ite ?_ ?_
      | refine LeO.bind ?_ (fun _ => ?_)
theorem semver_zzSplit.mono : ∀ a0 a1 k, LeO (semver_zzSplit.f k a0 a1) (semver_zzSplit.f (k + 1) a0 a1) := by
  intro a0 a1 k
  have ih0 := semver_zzSplit.mono_l k
  unfold semver_zzSplit.f
  repeat' first
      | (with_reducible exact ih0 _ _ _)
      | (with_reducible exact semver_zzIndex.mono _ _ _)
      | (with_reducible exact LeO.refl _)
      | (with_reducible exact LeO.none _)
      | (with_reducible refine LeO.ite ?_ ?_)
      | (with_reducible refine LeO.bind ?_ (fun _ => ?_))
      | exact ih0 _ _ _
      | exact semver_zzIndex.mono _ _ _
      | exact LeO.none _
      | refine LeO.ite ?_ ?_
      | refine LeO.bind ?_ (fun _ => ?_)
set_option maxHeartbeats 8000000 in
set_option maxRecDepth 100000 in
theorem semver_zzSplit.calls (k : Nat) (a0 : ByteArray) (a1 : ByteArray) (r : List ByteArray) (w : World) (h : semver_zzSplit.f k a0 a1 = some r) :
    Calls Tryd.prog 161 #[.string a0, .string a1] w fun e w' => ∃ v0_ : Value, e = .returned (v0_) ∧ Kd.R Kd.string 9 w' w.heap.size (fun _ => True) v0_ r ∧ Below w.heap.size w w' := by
  have HB := Aside0.mk (Below.refl w.heap.size w)
  have H : (semver_zzSplit.l0 k a0 a1 ([] : List ByteArray)) = some r := h
  clear h
  have H' := Aside0.mk H
  clear H
  go_enter Tryd.func161, Tryd.ntmps161
  go_wp2
  go_loopg [0, 5] k (fun kq v0 v5 w' => ∃ (x0_1 : ByteArray) (x5_1 : List ByteArray), v0 = .string x0_1 ∧ Aside0 (semver_zzSplit.l0 kq x0_1 a1 x5_1 = some r) ∧ Aside0 (kq ≤ k) ∧ Aside0 (Kd.R Kd.string 9 w' w.heap.size (fun _ => True) v5 x5_1) ∧ Aside0 (Below w.heap.size w w'))
  case atStart => exact ⟨(a0), (([] : List ByteArray)), (by first | rfl | (simp; done) | (simp [*]; done)), H', ⟨Nat.le_refl _⟩, ⟨by first | exact Kd.R_nil _ _ _ _ _ | exact Kd.N_nil _ _ _ _ _ | exact Kd.V_nil _ _ _ _ _ | exact Kd.Q_nil _ _ _ _ _ | exact Kd.S_nil _ _ _ _ _⟩, ⟨by repeat (first | (with_reducible first | exact HB.out | apply below_alloc | apply pw_below_drewN | apply below_drew1) | exact HB.out)⟩⟩
  case round =>
    clear H'
    try clear c1
    try clear p2
    obtain ⟨x0_1, x5_1, rfl, HA, HK1, HO_5, HB⟩ := hrel
    cases gk with
    | zero => exact absurd HA.out (by simp [semver_zzSplit.l0])
    | succ k1 =>
      have H := HA.out
      clear HA
      simp only [semver_zzSplit.l0] at H
      replace H := Option.bind_eq_some_iff.mp H
      obtain ⟨t101, A30, H⟩ := H
      replace H : (if t101 < 0 then (if x5_1.length < 8796093022208 then (some (x5_1 ++ [x0_1])) else (none)) else (if 0 ≤ t101 then (if t101 ≤ (x0_1.size : Int) then (if x5_1.length < 8796093022208 then (if 0 ≤ (wrap64 (t101 + (a1.size : Int))) then (if (wrap64 (t101 + (a1.size : Int))) ≤ (x0_1.size : Int) then (semver_zzSplit.l0 k1 (x0_1.extract ((wrap64 (t101 + (a1.size : Int))) : Int).toNat x0_1.size) a1 (x5_1 ++ [x0_1.extract 0 (t101 : Int).toNat])) else (none)) else (none)) else (none)) else (none)) else (none))) = some r := H
      have A3 := Aside0.mk A30
      clear A30
      by_cases c4 : t101 < 0
      · rw [if_pos c4] at H
        have c4b0 : decide (t101 < 0) = true := decide_eq_true c4
        clear c4
        by_cases c5 : x5_1.length < 8796093022208
        · rw [if_pos c5] at H
          have LMc5 := Aside0.mk c5
          clear c5
          obtain ⟨y102, hy102⟩ : ∃ y_ : List ByteArray, y_ = (x5_1 ++ [x0_1]) := ⟨_, rfl⟩
          replace H : (some y102) = some r := by first | (rw [hy102]; with_reducible exact H) | (have H2_ := (Option.bind_some _ _).symm.trans H; rw [hy102]; with_reducible exact H2_) | (have H2_ := (Option.bind_some _ _).symm.trans H; with_reducible exact H2_) | with_reducible exact H | (rw [hy102]; exact H) | exact H
          have Ny102 := Aside0.mk hy102
          clear hy102
          obtain rfl := Option.some.inj H
          go_wp2_with (first | ((with_reducible refine gate_callee (f := 163) rfl ?_); refine goesL_ (some 9) rfl rfl Tryd.func163 (by kernel_rfl) rfl #[.string x0_1, .string a1] rfl (by (try simp only [List.map_toArray, List.map_cons, List.map_nil]); first | done | rfl | (simp only [List.length_drop, List.length_take]; rfl)) ?_; (with_reducible refine (semver_zzIndex.calls k1 x0_1 a1 t101 _ A3.out).mono ?_); rintro e w' ⟨rfl, ⟨nd, rfl⟩⟩; refine ⟨_, rfl, ?_⟩) | ((with_reducible refine gate_builtin (b := .append) (xs := #[.tmp 12, .tmp 14]) rfl ?_); at_builtin; refine Kd.R_append Kd.string (w0 := w) w.heap.size rfl (.tmp 12) (.tmp 14) 74 9 (.string ⟨#[]⟩) 16 rfl Tryd.underlying74 info9 rfl (by decide) (by omega) u5 x5_1 x0_1 [.string x0_1] (fun _ => True) (fun _ => False) rfl rfl ?aP (fun _ hk => hk.elim) ?aF ?aO ?aB ?aS ?aL ?_; (case aP => exact rfl); (case aB => exact (by repeat (first | (with_reducible first | exact HB.out | apply below_alloc | apply pw_below_drewN | apply below_drew1) | exact HB.out))); (case aF => exact (fun _ _ => trivial)); (case aO => exact (by (with_reducible repeat (first | apply Kd.R_alloc | apply Kd.R_drewN | apply Kd.R_drew)); exact HO_5.out)); (case aS => exact (below_size (by repeat (first | (with_reducible first | exact HB.out | apply below_alloc | apply pw_below_drewN | apply below_drew1) | exact HB.out)))); (case aL => have := LMc5.out; omega); intro v103 w6 ho hb hg hat; rw [← Ny102.out] at ho; have n0_ := Aside0.mk (hb); have n1_ := Aside0.mk (ho); clear HB; clear HO_5; have HB := n0_; have HO104 := n1_; clear n0_ n1_; clear ho hb hg hat))
          go_ret
          exact ⟨_, by first | rfl | (simp [errW_none, errW_some] <;> rfl) | (simp [*, errW_none, errW_some] <;> rfl), by (with_reducible repeat (first | apply Kd.R_alloc | apply Kd.R_drewN | apply Kd.R_drew)); exact HO104.out, by repeat (first | (with_reducible first | exact HB.out | apply below_alloc | apply pw_below_drewN | apply below_drew1) | exact HB.out)⟩
        · rw [if_neg c5] at H
          exact absurd H (by simp)
      · rw [if_neg c4] at H
        have c4b0 : decide (t101 < 0) = false := decide_eq_false c4
        clear c4
        by_cases c7 : 0 ≤ t101
        · rw [if_pos c7] at H
          have c7b0 := eq_true c7
          have c7b1 : decide (0 ≤ t101) = true := decide_eq_true c7
          clear c7
          by_cases c8 : t101 ≤ (x0_1.size : Int)
          · rw [if_pos c8] at H
            have c8b0 := eq_true c8
            have c8b1 : decide (t101 ≤ (x0_1.size : Int)) = true := decide_eq_true c8
            clear c8
            by_cases c9 : x5_1.length < 8796093022208
            · rw [if_pos c9] at H
              have LMc9 := Aside0.mk c9
              clear c9
              obtain ⟨y105, hy105⟩ : ∃ y_ : List ByteArray, y_ = (x5_1 ++ [x0_1.extract 0 (t101 : Int).toNat]) := ⟨_, rfl⟩
              replace H : (if 0 ≤ (wrap64 (t101 + (a1.size : Int))) then (if (wrap64 (t101 + (a1.size : Int))) ≤ (x0_1.size : Int) then (semver_zzSplit.l0 k1 (x0_1.extract ((wrap64 (t101 + (a1.size : Int))) : Int).toNat x0_1.size) a1 y105) else (none)) else (none)) = some r := by first | (rw [hy105]; with_reducible exact H) | (have H2_ := (Option.bind_some _ _).symm.trans H; rw [hy105]; with_reducible exact H2_) | (have H2_ := (Option.bind_some _ _).symm.trans H; with_reducible exact H2_) | with_reducible exact H | (rw [hy105]; exact H) | exact H
              have Ny105 := Aside0.mk hy105
              clear hy105
              obtain ⟨ji10, hji10⟩ : ∃ j_ : Int, (wrap64 (t101 + (a1.size : Int))) = j_ := ⟨_, rfl⟩
              replace H : (if 0 ≤ (ji10) then (if (ji10) ≤ (x0_1.size : Int) then (semver_zzSplit.l0 k1 (x0_1.extract ((ji10) : Int).toNat x0_1.size) a1 y105) else (none)) else (none)) = some r := by first | (rw [hji10] at H; exact H) | (simp only [hji10] at H ⊢; exact H)
              (try rw [hji10] at A3)
              have hji10w : (IntKind.i64.wrap (t101 + (a1.size : Int))) = ji10 := (i64_w _).trans hji10
              by_cases c11 : 0 ≤ (ji10)
              · rw [if_pos c11] at H
                have c11b0 := eq_true c11
                have c11b1 : decide (0 ≤ (ji10)) = true := decide_eq_true c11
                clear c11
                by_cases c12 : (ji10) ≤ (x0_1.size : Int)
                · rw [if_pos c12] at H
                  have c12b0 := eq_true c12
                  have c12b1 : decide ((ji10) ≤ (x0_1.size : Int)) = true := decide_eq_true c12
                  clear c12
                  have H' := Aside0.mk H
                  clear H
                  go_wp2_with (first | ((with_reducible refine gate_callee (f := 163) rfl ?_); refine goesL_ (some 9) rfl rfl Tryd.func163 (by kernel_rfl) rfl #[.string x0_1, .string a1] rfl (by (try simp only [List.map_toArray, List.map_cons, List.map_nil]); first | done | rfl | (simp only [List.length_drop, List.length_take]; rfl)) ?_; (with_reducible refine (semver_zzIndex.calls k1 x0_1 a1 t101 _ A3.out).mono ?_); rintro e w' ⟨rfl, ⟨nd, rfl⟩⟩; refine ⟨_, rfl, ?_⟩) | ((with_reducible refine gate_builtin (b := .append) (xs := #[.tmp 16, .tmp 20]) rfl ?_); at_builtin; refine Kd.R_append Kd.string (w0 := w) w.heap.size rfl (.tmp 16) (.tmp 20) 74 9 (.string ⟨#[]⟩) 16 rfl Tryd.underlying74 info9 rfl (by decide) (by omega) u5 x5_1 (x0_1.extract 0 (t101 : Int).toNat) [.string (x0_1.extract 0 (t101 : Int).toNat)] (fun _ => True) (fun _ => False) rfl rfl ?aP (fun _ hk => hk.elim) ?aF ?aO ?aB ?aS ?aL ?_; (case aP => exact rfl); (case aB => exact (by repeat (first | (with_reducible first | exact HB.out | apply below_alloc | apply pw_below_drewN | apply below_drew1) | exact HB.out))); (case aF => exact (fun _ _ => trivial)); (case aO => exact (by (with_reducible repeat (first | apply Kd.R_alloc | apply Kd.R_drewN | apply Kd.R_drew)); exact HO_5.out)); (case aS => exact (below_size (by repeat (first | (with_reducible first | exact HB.out | apply below_alloc | apply pw_below_drewN | apply below_drew1) | exact HB.out)))); (case aL => have := LMc9.out; omega); intro v106 w13 ho hb hg hat; rw [← Ny105.out] at ho; have n0_ := Aside0.mk (hb); have n1_ := Aside0.mk (ho); clear HB; clear HO_5; have HB := n0_; have HO107 := n1_; clear n0_ n1_; clear ho hb hg hat))
                  go_roundg k1
                  case measure => have := HK1.out; omega
                  case rel => exact ⟨(x0_1.extract ((ji10) : Int).toNat x0_1.size), (y105), (by first | rfl | (simp; done) | (simp only [← hji10] <;> (first | rfl | simp)) | (simp [*]; done)), H', ⟨by have := HK1.out; omega⟩, ⟨by (with_reducible repeat (first | apply Kd.R_alloc | apply Kd.R_drewN | apply Kd.R_drew)); exact HO107.out⟩, ⟨by repeat (first | (with_reducible first | exact HB.out | apply below_alloc | apply pw_below_drewN | apply below_drew1) | exact HB.out)⟩⟩
                · rw [if_neg c12] at H
                  exact absurd H (by simp)
              · rw [if_neg c11] at H
                exact absurd H (by simp)
            · rw [if_neg c9] at H
              exact absurd H (by simp)
          · rw [if_neg c8] at H
            exact absurd H (by simp)
        · rw [if_neg c7] at H
          exact absurd H (by simp)

/-! ### semver_comparePrerelease: function 128 -/
mutual
def semver_comparePrerelease.j0 : Nat → List ByteArray → List ByteArray → Int → Int → Int → Option (Int)
  | 0, _, _, _, _, _ => none
  | k + 1, x5, x6, x7, x8, x9 => semver_comparePrerelease.l0 k x5 x6 x7 x8 x9 0
def semver_comparePrerelease.l0 : Nat → List ByteArray → List ByteArray → Int → Int → Int → Int → Option (Int)
  | 0, _, _, _, _, _, _ => none
  | k + 1, x5, x6, x7, x8, x9, x10 => if x10 < x9 then (if x10 < x7 then (if 0 ≤ x10 then (if x10 < (x5.length : Int) then (semver_comparePrerelease.j2 k x5 x6 x7 x8 x9 x10 (rdOf ByteArray.empty x5 x10)) else (none)) else (none)) else (semver_comparePrerelease.j2 k x5 x6 x7 x8 x9 x10 (⟨#[]⟩ : ByteArray))) else (some 0)
def semver_comparePrerelease.j2 : Nat → List ByteArray → List ByteArray → Int → Int → Int → Int → ByteArray → Option (Int)
  | 0, _, _, _, _, _, _, _ => none
  | k + 1, x5, x6, x7, x8, x9, x10, x11 => if x10 < x8 then (if 0 ≤ x10 then (if x10 < (x6.length : Int) then ((Hand.comparePrePart.f x11 (rdOf ByteArray.empty x6 x10)).bind fun t116 => (if t116 = 0 then (semver_comparePrerelease.l0 k x5 x6 x7 x8 x9 (wrap64 (x10 + 1))) else (some t116))) else (none)) else (none)) else ((Hand.comparePrePart.f x11 (⟨#[]⟩ : ByteArray)).bind fun t117 => (if t117 = 0 then (semver_comparePrerelease.l0 k x5 x6 x7 x8 x9 (wrap64 (x10 + 1))) else (some t117)))
end
def semver_comparePrerelease.f (k : Nat) (a0 : ByteArray) (a1 : ByteArray) : Option (Int) := (semver_zzSplit.f k a0 (⟨#[46]⟩ : ByteArray)).bind fun t108 => ((semver_zzSplit.f k a1 (⟨#[46]⟩ : ByteArray)).bind fun t111 => (if (t111.length : Int) > (t108.length : Int) then (semver_comparePrerelease.j0 k t108 t111 (t108.length : Int) (t111.length : Int) (t111.length : Int)) else (semver_comparePrerelease.j0 k t108 t111 (t108.length : Int) (t111.length : Int) (t108.length : Int))))
theorem semver_comparePrerelease.mono_l : ∀ k, (∀ y0 y1 y2 y3 y4, LeO (semver_comparePrerelease.j0 k y0 y1 y2 y3 y4) (semver_comparePrerelease.j0 (k + 1) y0 y1 y2 y3 y4)) ∧ (∀ y0 y1 y2 y3 y4 y5, LeO (semver_comparePrerelease.l0 k y0 y1 y2 y3 y4 y5) (semver_comparePrerelease.l0 (k + 1) y0 y1 y2 y3 y4 y5)) ∧ (∀ y0 y1 y2 y3 y4 y5 y6, LeO (semver_comparePrerelease.j2 k y0 y1 y2 y3 y4 y5 y6) (semver_comparePrerelease.j2 (k + 1) y0 y1 y2 y3 y4 y5 y6))
  | 0 => ⟨fun _ _ _ _ _ r h => by simp [semver_comparePrerelease.j0] at h, fun _ _ _ _ _ _ r h => by simp [semver_comparePrerelease.l0] at h, fun _ _ _ _ _ _ _ r h => by simp [semver_comparePrerelease.j2] at h⟩
  | k + 1 => by
    obtain ⟨ih0, ih1, ih2⟩ := semver_comparePrerelease.mono_l k
    refine ⟨?_, ?_, ?_⟩
    · intro y0 y1 y2 y3 y4
      unfold semver_comparePrerelease.j0
      repeat' first
      | (with_reducible exact ih0 _ _ _ _ _)
      | (with_reducible exact ih1 _ _ _ _ _ _)
      | (with_reducible exact ih2 _ _ _ _ _ _ _)
      | (with_reducible exact semver_zzSplit.mono _ _ _)
      | (with_reducible exact LeO.refl _)
      | (with_reducible exact LeO.none _)
      | (with_reducible refine LeO.ite ?_ ?_)
      | (with_reducible refine LeO.bind ?_ (fun _ => ?_))
      | exact ih0 _ _ _ _ _
      | exact ih1 _ _ _ _ _ _
      | exact ih2 _ _ _ _ _ _ _
      | exact semver_zzSplit.mono _ _ _
      | exact LeO.none _
      | refine LeO.ite ?_ ?_
      | refine LeO.bind ?_ (fun _ => ?_)
    · intro y0 y1 y2 y3 y4 y5
      unfold semver_comparePrerelease.l0
      repeat' first
      | (with_reducible exact ih0 _ _ _ _ _)
      | (with_reducible exact ih1 _ _ _ _ _ _)
      | (with_reducible exact ih2 _ _ _ _ _ _ _)
      | (with_reducible exact semver_zzSplit.mono _ _ _)
      | (with_reducible exact LeO.refl _)
      | (with_reducible exact LeO.none _)
      | (with_reducible refine LeO.ite ?_ ?_)
      | (with_reducible refine LeO.bind ?_ (fun _ => ?_))
      | exact ih0 _ _ _ _ _
      | exact ih1 _ _ _ _ _ _
      | exact ih2 _ _ _ _ _ _ _
      | exact semver_zzSplit.mono _ _ _
      | exact LeO.none _
      | refine LeO.ite ?_ ?_
      | refine LeO.bind ?_ (fun _ => ?_)
    · intro y0 y1 y2 y3 y4 y5 y6
      unfold semver_comparePrerelease.j2
      repeat' first
      | (with_reducible exact ih0 _ _ _ _ _)
      | (with_reducible exact ih1 _ _ _ _ _ _)
      | (with_reducible exact ih2 _ _ _ _ _ _ _)
      | (with_reducible exact semver_zzSplit.mono _ _ _)
      | (with_reducible exact LeO.refl _)
      | (with_reducible exact LeO.none _)
      | (with_reducible refine LeO.ite ?_ ?_)
      | (with_reducible refine LeO.bind ?_ (fun _ => ?_))
      | exact ih0 _ _ _ _ _
      | exact ih1 _ _ _ _ _ _
      | exact ih2 _ _ _ _ _ _ _
      | exact semver_zzSplit.mono _ _ _
      | exact LeO.none _
      | refine LeO.ite ?_ ?_
      | refine LeO.bind ?_ (fun _ => ?_)
theorem semver_comparePrerelease.mono : ∀ a0 a1 k, LeO (semver_comparePrerelease.f k a0 a1) (semver_comparePrerelease.f (k + 1) a0 a1) := by
  intro a0 a1 k
  obtain ⟨ih0, ih1, ih2⟩ := semver_comparePrerelease.mono_l k
  unfold semver_comparePrerelease.f
  repeat' first
      | (with_reducible exact ih0 _ _ _ _ _)
      | (with_reducible exact ih1 _ _ _ _ _ _)
      | (with_reducible exact ih2 _ _ _ _ _ _ _)
      | (with_reducible exact semver_zzSplit.mono _ _ _)
      | (with_reducible exact LeO.refl _)
      | (with_reducible exact LeO.none _)
      | (with_reducible refine LeO.ite ?_ ?_)
      | (with_reducible refine LeO.bind ?_ (fun _ => ?_))
      | exact ih0 _ _ _ _ _
      | exact ih1 _ _ _ _ _ _
      | exact ih2 _ _ _ _ _ _ _
      | exact semver_zzSplit.mono _ _ _
      | exact LeO.none _
      | refine LeO.ite ?_ ?_
      | refine LeO.bind ?_ (fun _ => ?_)
set_option maxHeartbeats 8000000 in
set_option maxRecDepth 100000 in
theorem semver_comparePrerelease.calls (k : Nat) (a0 : ByteArray) (a1 : ByteArray) (r : Int) (w : World) (hG0 : Hand.Gl w) (h : semver_comparePrerelease.f k a0 a1 = some r) :
    Calls Tryd.prog 128 #[.string a0, .string a1] w fun e w' => e = .returned (.int .i64 r) ∧ Below w.heap.size w w' := by
  have HG := Aside0.mk hG0
  clear hG0
  have HB := Aside0.mk (Below.refl w.heap.size w)
  have H : ((semver_zzSplit.f k a0 (⟨#[46]⟩ : ByteArray)).bind fun t108 => ((semver_zzSplit.f k a1 (⟨#[46]⟩ : ByteArray)).bind fun t111 => (if (t111.length : Int) > (t108.length : Int) then (semver_comparePrerelease.j0 k t108 t111 (t108.length : Int) (t111.length : Int) (t111.length : Int)) else (semver_comparePrerelease.j0 k t108 t111 (t108.length : Int) (t111.length : Int) (t108.length : Int))))) = some r := h
  clear h
  replace H := Option.bind_eq_some_iff.mp H
  obtain ⟨t108, A30, H⟩ := H
  replace H : ((semver_zzSplit.f k a1 (⟨#[46]⟩ : ByteArray)).bind fun t111 => (if (t111.length : Int) > (t108.length : Int) then (semver_comparePrerelease.j0 k t108 t111 (t108.length : Int) (t111.length : Int) (t111.length : Int)) else (semver_comparePrerelease.j0 k t108 t111 (t108.length : Int) (t111.length : Int) (t108.length : Int)))) = some r := H
  have A3 := Aside0.mk A30
  clear A30
  replace H := Option.bind_eq_some_iff.mp H
  obtain ⟨t111, A40, H⟩ := H
  replace H : (if (t111.length : Int) > (t108.length : Int) then (semver_comparePrerelease.j0 k t108 t111 (t108.length : Int) (t111.length : Int) (t111.length : Int)) else (semver_comparePrerelease.j0 k t108 t111 (t108.length : Int) (t111.length : Int) (t108.length : Int))) = some r := H
  have A4 := Aside0.mk A40
  clear A40
  have HC5 := Aside0.mk H
  clear H
  go_enter Tryd.func128, Tryd.ntmps128
  go_upto_if 25 with (first | ((with_reducible refine gate_callee (f := 161) rfl ?_); refine goesL_ (some 15) rfl rfl Tryd.func161 (by kernel_rfl) rfl #[.string a0, .string (⟨#[46]⟩ : ByteArray)] rfl (by (try simp only [List.map_toArray, List.map_cons, List.map_nil]); first | done | rfl | (simp only [List.length_drop, List.length_take]; rfl)) ?_; (with_reducible refine (semver_zzSplit.calls k a0 (⟨#[46]⟩ : ByteArray) t108 _ A3.out).mono ?_); rintro e w6 ⟨v109, rfl, ho0, hb⟩; refine ⟨_, rfl, ?_⟩; have n0_ := Aside0.mk (Kd.R_lower ho0 (below_size (by repeat (first | (with_reducible first | exact HB.out | apply below_alloc | apply pw_below_drewN | apply below_drew1) | exact HB.out)))); have n1_ := Aside0.mk (below_step (by repeat (first | (with_reducible first | exact HB.out | apply below_alloc | apply pw_below_drewN | apply below_drew1) | exact HB.out)) hb); clear HB; have HO110 := n0_; have HB := n1_; clear n0_ n1_; (try clear hb); (try clear hb2); (try clear hk); (try clear hi); (try clear ho0)) | ((with_reducible refine gate_callee (f := 161) rfl ?_); refine goesL_ (some 17) rfl rfl Tryd.func161 (by kernel_rfl) rfl #[.string a1, .string (⟨#[46]⟩ : ByteArray)] rfl (by (try simp only [List.map_toArray, List.map_cons, List.map_nil]); first | done | rfl | (simp only [List.length_drop, List.length_take]; rfl)) ?_; (with_reducible refine (semver_zzSplit.calls k a1 (⟨#[46]⟩ : ByteArray) t111 _ A4.out).mono ?_); rintro e w7 ⟨v112, rfl, ho0, hb⟩; refine ⟨_, rfl, ?_⟩; have n0_ := Aside0.mk (Kd.R_elder' (by (with_reducible repeat (first | apply Kd.R_alloc | apply Kd.R_drewN | apply Kd.R_drew)); exact HO110.out) (Kd.R_base ho0) hb); have n1_ := Aside0.mk (Kd.R_lower (Kd.R_new' ho0 (Kd.R_lt (by (with_reducible repeat (first | apply Kd.R_alloc | apply Kd.R_drewN | apply Kd.R_drew)); exact HO110.out))) (below_size (by repeat (first | (with_reducible first | exact HB.out | apply below_alloc | apply pw_below_drewN | apply below_drew1) | exact HB.out)))); have n2_ := Aside0.mk (below_step (by repeat (first | (with_reducible first | exact HB.out | apply below_alloc | apply pw_below_drewN | apply below_drew1) | exact HB.out)) hb); clear HO110; clear HB; have HO110 := n0_; have HO113 := n1_; have HB := n2_; clear n0_ n1_ n2_; (try clear hb); (try clear hb2); (try clear hk); (try clear hi); (try clear ho0); obtain ⟨Ao8, co8, eo8⟩ := Kd.R_slice HO110.out; subst eo8; obtain ⟨Ao9, co9, eo9⟩ := Kd.R_slice HO113.out; subst eo9))
  (try simp only [Act.put, List.setIfInBounds_toArray, List.set_cons_zero, List.set_cons_succ])
  go_cut [9] (fun v9 wc => ∃ (kq : Nat) (x9_4 : Int), v9 = .int .i64 x9_4 ∧ Aside0 (semver_comparePrerelease.j0 kq t108 t111 (t108.length : Int) (t111.length : Int) x9_4 = some r) ∧ Aside0 (kq ≤ k) ∧ Aside0 (Kd.R Kd.string 9 wc w.heap.size (fun k_ => some k_ ≠ ((.slice Ao9 t111.length co9) : Value).ownBlock) (.slice Ao8 t108.length co8) t108) ∧ Aside0 (Kd.R Kd.string 9 wc w.heap.size (fun k_ => some k_ ≠ ((.slice Ao8 t108.length co8) : Value).ownBlock) (.slice Ao9 t111.length co9) t111) ∧ Aside0 (Below w.heap.size w wc))
  case first =>
    have H := HC5.out
    clear HC5
    by_cases c10 : (t111.length : Int) > (t108.length : Int)
    · rw [if_pos c10] at H
      have c10b0 : decide ((t108.length : Int) < (t111.length : Int)) = true := decide_eq_true c10
      have c10b1 : decide (t108.length < t111.length) = true := decide_eq_true (Int.ofNat_lt.mp c10)
      have c10p : t108.length < t111.length := by simpa using c10b1
      clear c10
      (first | rw [c10b0] | (simp only [i64_w, i32_w]; rw [c10b0]) | skip)
      have H' := Aside0.mk H
      clear H
      go_wp2
      go_meet
      case rel => exact ⟨_, ((t111.length : Int)), (by first | rfl | (simp; done) | (simp [*]; done)), H', ⟨by first | omega | exact Nat.le_refl _⟩, ⟨by (with_reducible repeat (first | apply Kd.R_alloc | apply Kd.R_drewN | apply Kd.R_drew)); exact Kd.R_mono HO110.out (fun _ hk => hk.2)⟩, ⟨by (with_reducible repeat (first | apply Kd.R_alloc | apply Kd.R_drewN | apply Kd.R_drew)); exact Kd.R_mono HO113.out (fun _ hk => hk.2)⟩, ⟨by repeat (first | (with_reducible first | exact HB.out | apply below_alloc | apply pw_below_drewN | apply below_drew1) | exact HB.out)⟩⟩
    · rw [if_neg c10] at H
      have c10b0 : decide ((t108.length : Int) < (t111.length : Int)) = false := decide_eq_false c10
      have c10b1 : decide (t108.length < t111.length) = false := decide_eq_false (fun h => c10 (Int.ofNat_lt.mpr h))
      have c10p : ¬ t108.length < t111.length := by simpa using c10b1
      clear c10
      (first | rw [c10b0] | (simp only [i64_w, i32_w]; rw [c10b0]) | skip)
      have H' := Aside0.mk H
      clear H
      go_wp2
      go_meet
      case rel => exact ⟨_, ((t108.length : Int)), (by first | rfl | (simp; done) | (simp [*]; done)), H', ⟨by first | omega | exact Nat.le_refl _⟩, ⟨by (with_reducible repeat (first | apply Kd.R_alloc | apply Kd.R_drewN | apply Kd.R_drew)); exact Kd.R_mono HO110.out (fun _ hk => hk.2)⟩, ⟨by (with_reducible repeat (first | apply Kd.R_alloc | apply Kd.R_drewN | apply Kd.R_drew)); exact Kd.R_mono HO113.out (fun _ hk => hk.2)⟩, ⟨by repeat (first | (with_reducible first | exact HB.out | apply below_alloc | apply pw_below_drewN | apply below_drew1) | exact HB.out)⟩⟩
  case rest =>
    clear HC5
    try clear c1
    try clear p2
    try clear c10
    try clear c10b0
    try clear c10b1
    obtain ⟨kq, x9_4, rfl, HA, HJ4, HO_5, HO_6, HB⟩ := hcut
    cases kq with
    | zero => exact absurd HA.out (by simp [semver_comparePrerelease.j0])
    | succ kj4 =>
      have H := HA.out
      clear HA
      simp only [semver_comparePrerelease.j0] at H
      have H' := Aside0.mk H
      clear H
      go_wp2
      go_loopg [10] kj4 (fun kq v10 w' => ∃ (x10_2 : Int), v10 = .int .i64 x10_2 ∧ Aside0 (semver_comparePrerelease.l0 kq t108 t111 (t108.length : Int) (t111.length : Int) x9_4 x10_2 = some r) ∧ Aside0 (kq ≤ kj4) ∧ Aside0 (Kd.R Kd.string 9 w' w.heap.size (fun k_ => some k_ ≠ ((.slice Ao9 t111.length co9) : Value).ownBlock) (.slice Ao8 t108.length co8) t108) ∧ Aside0 (Kd.R Kd.string 9 w' w.heap.size (fun k_ => some k_ ≠ ((.slice Ao8 t108.length co8) : Value).ownBlock) (.slice Ao9 t111.length co9) t111) ∧ Aside0 (Below w.heap.size w w'))
      case atStart => exact ⟨(0), (by first | rfl | (simp; done) | (simp [*]; done)), H', ⟨Nat.le_refl _⟩, ⟨by (with_reducible repeat (first | apply Kd.R_alloc | apply Kd.R_drewN | apply Kd.R_drew)); exact HO_5.out⟩, ⟨by (with_reducible repeat (first | apply Kd.R_alloc | apply Kd.R_drewN | apply Kd.R_drew)); exact HO_6.out⟩, ⟨by repeat (first | (with_reducible first | exact HB.out | apply below_alloc | apply pw_below_drewN | apply below_drew1) | exact HB.out)⟩⟩
      case round =>
        clear H'
        try clear c1
        try clear p2
        try clear c10
        try clear c10b0
        try clear c10b1
        try clear p2
        obtain ⟨x10_2, rfl, HA, HK2, HO_5, HO_6, HB⟩ := hrel
        cases gk with
        | zero => exact absurd HA.out (by simp [semver_comparePrerelease.l0])
        | succ k2 =>
          have H := HA.out
          clear HA
          simp only [semver_comparePrerelease.l0] at H
          by_cases c11 : x10_2 < x9_4
          · rw [if_pos c11] at H
            have c11b0 : decide (x10_2 < x9_4) = true := decide_eq_true c11
            clear c11
            have HC12 := Aside0.mk H
            clear H
            go_upto_if 34 with (fail)
            go_cut [11] (fun v11 wc => ∃ (kq : Nat) (x11_11 : ByteArray), v11 = .string x11_11 ∧ Aside0 (semver_comparePrerelease.j2 kq t108 t111 (t108.length : Int) (t111.length : Int) x9_4 x10_2 x11_11 = some r) ∧ Aside0 (kq ≤ k2) ∧ Aside0 (Kd.R Kd.string 9 wc w.heap.size (fun k_ => some k_ ≠ ((.slice Ao9 t111.length co9) : Value).ownBlock) (.slice Ao8 t108.length co8) t108) ∧ Aside0 (Kd.R Kd.string 9 wc w.heap.size (fun k_ => some k_ ≠ ((.slice Ao8 t108.length co8) : Value).ownBlock) (.slice Ao9 t111.length co9) t111) ∧ Aside0 (Below w.heap.size w wc))
            case first =>
              have H := HC12.out
              clear HC12
              by_cases c13 : x10_2 < (t108.length : Int)
              · rw [if_pos c13] at H
                have c13b0 : decide (x10_2 < (t108.length : Int)) = true := decide_eq_true c13
                clear c13
                (first | rw [c13b0] | (simp only [i64_w, i32_w]; rw [c13b0]) | skip)
                by_cases c14 : 0 ≤ x10_2
                · rw [if_pos c14] at H
                  have c14b0 : decide (0 ≤ x10_2) = true := decide_eq_true c14
                  clear c14
                  by_cases c15 : x10_2 < (t108.length : Int)
                  · rw [if_pos c15] at H
                    have c15b0 : decide (x10_2 < (t108.length : Int)) = true := decide_eq_true c15
                    clear c15
                    have H' := Aside0.mk H
                    clear H
                    have p114 : 0 ≤ (x10_2 : Int) := of_decide_eq_true (by first | (with_reducible assumption) | assumption)
                    have q114 : x10_2 < (t108.length : Int) := of_decide_eq_true (by first | (with_reducible assumption) | assumption)
                    obtain ⟨ad114, e114, hx114_0⟩ := Kd.at_string (Kd.R_reads' HO_5.out).2.2 x10_2 p114 q114
                    cases e114
                    replace p114 := eq_true p114
                    replace q114 := eq_true q114
                    go_wp2
                    go_meet
                    case rel => exact ⟨_, (rdOf ByteArray.empty t108 x10_2), (by first | rfl | (simp; done) | (simp [*]; done)), H', ⟨by have := HJ4.out; have := HK2.out; first | omega | exact Nat.le_refl _⟩, ⟨by (with_reducible repeat (first | apply Kd.R_alloc | apply Kd.R_drewN | apply Kd.R_drew)); exact HO_5.out⟩, ⟨by (with_reducible repeat (first | apply Kd.R_alloc | apply Kd.R_drewN | apply Kd.R_drew)); exact HO_6.out⟩, ⟨by repeat (first | (with_reducible first | exact HB.out | apply below_alloc | apply pw_below_drewN | apply below_drew1) | exact HB.out)⟩⟩
                  · rw [if_neg c15] at H
                    exact absurd H (by simp)
                · rw [if_neg c14] at H
                  exact absurd H (by simp)
              · rw [if_neg c13] at H
                have c13b0 : decide (x10_2 < (t108.length : Int)) = false := decide_eq_false c13
                clear c13
                (first | rw [c13b0] | (simp only [i64_w, i32_w]; rw [c13b0]) | skip)
                have H' := Aside0.mk H
                clear H
                go_wp2
                go_meet
                case rel => exact ⟨_, ((⟨#[]⟩ : ByteArray)), (by first | rfl | (simp; done) | (simp [*]; done)), H', ⟨by have := HJ4.out; have := HK2.out; first | omega | exact Nat.le_refl _⟩, ⟨by (with_reducible repeat (first | apply Kd.R_alloc | apply Kd.R_drewN | apply Kd.R_drew)); exact HO_5.out⟩, ⟨by (with_reducible repeat (first | apply Kd.R_alloc | apply Kd.R_drewN | apply Kd.R_drew)); exact HO_6.out⟩, ⟨by repeat (first | (with_reducible first | exact HB.out | apply below_alloc | apply pw_below_drewN | apply below_drew1) | exact HB.out)⟩⟩
            case rest =>
              clear HC12
              try clear c1
              try clear p1
              try clear q1
              try clear hx1
              try clear p2
              try clear c10
              try clear c10b0
              try clear c10b1
              try clear c11
              try clear c11b0
              try clear p11
              try clear q11
              try clear hx11
              try clear c12
              try clear c13
              try clear c13b0
              try clear c14
              try clear c14b0
              try clear c15
              try clear c15b0
              try clear hx114_0
              try clear p114
              try clear p2
              try clear q114
              obtain ⟨kq, x11_11, rfl, HA, HJ11, HO_5, HO_6, HB⟩ := hcut
              cases kq with
              | zero => exact absurd HA.out (by simp [semver_comparePrerelease.j2])
              | succ kj11 =>
                have H := HA.out
                clear HA
                simp only [semver_comparePrerelease.j2] at H
                by_cases c16 : x10_2 < (t111.length : Int)
                · rw [if_pos c16] at H
                  have c16b0 : decide (x10_2 < (t111.length : Int)) = true := decide_eq_true c16
                  clear c16
                  by_cases c17 : 0 ≤ x10_2
                  · rw [if_pos c17] at H
                    have c17b0 : decide (0 ≤ x10_2) = true := decide_eq_true c17
                    clear c17
                    by_cases c18 : x10_2 < (t111.length : Int)
                    · rw [if_pos c18] at H
                      have c18b0 : decide (x10_2 < (t111.length : Int)) = true := decide_eq_true c18
                      clear c18
                      replace H := Option.bind_eq_some_iff.mp H
                      obtain ⟨t116, A190, H⟩ := H
                      replace H : (if t116 = 0 then (semver_comparePrerelease.l0 kj11 t108 t111 (t108.length : Int) (t111.length : Int) x9_4 (wrap64 (x10_2 + 1))) else (some t116)) = some r := H
                      have A19 := Aside0.mk A190
                      clear A190
                      by_cases c20 : t116 = 0
                      · rw [if_pos c20] at H
                        have c20b0 : (t116 == 0) = true := beq_iff_eq.mpr c20
                        have c20b1 : (t116 != 0) = false := bne_eq_false_iff_eq.mpr c20
                        clear c20
                        have H' := Aside0.mk H
                        clear H
                        have p115 : 0 ≤ (x10_2 : Int) := of_decide_eq_true (by first | (with_reducible assumption) | assumption)
                        have q115 : x10_2 < (t111.length : Int) := of_decide_eq_true (by first | (with_reducible assumption) | assumption)
                        obtain ⟨ad115, e115, hx115_0⟩ := Kd.at_string (Kd.R_reads' HO_6.out).2.2 x10_2 p115 q115
                        cases e115
                        replace p115 := eq_true p115
                        replace q115 := eq_true q115
                        go_wp2_with (first | ((with_reducible refine gate_callee (f := 162) rfl ?_); refine goesL_ (some 48) rfl rfl Tryd.func162 (by kernel_rfl) rfl #[.string x11_11, .string (rdOf ByteArray.empty t111 x10_2)] rfl (by (try simp only [List.map_toArray, List.map_cons, List.map_nil]); first | done | rfl | (simp only [List.length_drop, List.length_take]; rfl)) ?_; (with_reducible refine (Hand.comparePrePart.calls x11_11 (rdOf ByteArray.empty t111 x10_2) t116 _ ?gl1 A19.out).mono ?_); (case gl1 => first | exact HG.out | exact Hand.Gl.below HG.out (by repeat (first | (with_reducible first | exact HB.out | apply below_alloc | apply pw_below_drewN | apply below_drew1) | exact HB.out))); rintro e w21 ⟨rfl, hb⟩; refine ⟨_, rfl, ?_⟩; have n0_ := Aside0.mk (Kd.R_below (by (with_reducible repeat (first | apply Kd.R_alloc | apply Kd.R_drewN | apply Kd.R_drew)); exact HO_5.out) hb); have n1_ := Aside0.mk (Kd.R_below (by (with_reducible repeat (first | apply Kd.R_alloc | apply Kd.R_drewN | apply Kd.R_drew)); exact HO_6.out) hb); have n2_ := Aside0.mk (below_step (by repeat (first | (with_reducible first | exact HB.out | apply below_alloc | apply pw_below_drewN | apply below_drew1) | exact HB.out)) hb); clear HO_5; clear HO_6; clear HB; have HO_5 := n0_; have HO_6 := n1_; have HB := n2_; clear n0_ n1_ n2_; (try clear hb); (try clear hb2); (try clear hk); (try clear hi)))
                        go_roundg kj11
                        case measure => have := HJ4.out; have := HK2.out; have := HJ11.out; omega
                        case rel => exact ⟨(wrap64 (x10_2 + 1)), (by first | rfl | (simp; done) | (simp [*]; done)), H', ⟨by have := HJ4.out; have := HK2.out; have := HJ11.out; omega⟩, ⟨by (with_reducible repeat (first | apply Kd.R_alloc | apply Kd.R_drewN | apply Kd.R_drew)); exact HO_5.out⟩, ⟨by (with_reducible repeat (first | apply Kd.R_alloc | apply Kd.R_drewN | apply Kd.R_drew)); exact HO_6.out⟩, ⟨by repeat (first | (with_reducible first | exact HB.out | apply below_alloc | apply pw_below_drewN | apply below_drew1) | exact HB.out)⟩⟩
                      · rw [if_neg c20] at H
                        have c20b0 : (t116 == 0) = false := beq_eq_false_iff_ne.mpr c20
                        have c20b1 : (t116 != 0) = true := bne_iff_ne.mpr c20
                        obtain rfl := Option.some.inj H
                        have p115 : 0 ≤ (x10_2 : Int) := of_decide_eq_true (by first | (with_reducible assumption) | assumption)
                        have q115 : x10_2 < (t111.length : Int) := of_decide_eq_true (by first | (with_reducible assumption) | assumption)
                        obtain ⟨ad115, e115, hx115_0⟩ := Kd.at_string (Kd.R_reads' HO_6.out).2.2 x10_2 p115 q115
                        cases e115
                        replace p115 := eq_true p115
                        replace q115 := eq_true q115
                        go_wp2_with (first | ((with_reducible refine gate_callee (f := 162) rfl ?_); refine goesL_ (some 48) rfl rfl Tryd.func162 (by kernel_rfl) rfl #[.string x11_11, .string (rdOf ByteArray.empty t111 x10_2)] rfl (by (try simp only [List.map_toArray, List.map_cons, List.map_nil]); first | done | rfl | (simp only [List.length_drop, List.length_take]; rfl)) ?_; (with_reducible refine (Hand.comparePrePart.calls x11_11 (rdOf ByteArray.empty t111 x10_2) t116 _ ?gl2 A19.out).mono ?_); (case gl2 => first | exact HG.out | exact Hand.Gl.below HG.out (by repeat (first | (with_reducible first | exact HB.out | apply below_alloc | apply pw_below_drewN | apply below_drew1) | exact HB.out))); rintro e w22 ⟨rfl, hb⟩; refine ⟨_, rfl, ?_⟩; have n0_ := Aside0.mk (Kd.R_below (by (with_reducible repeat (first | apply Kd.R_alloc | apply Kd.R_drewN | apply Kd.R_drew)); exact HO_5.out) hb); have n1_ := Aside0.mk (Kd.R_below (by (with_reducible repeat (first | apply Kd.R_alloc | apply Kd.R_drewN | apply Kd.R_drew)); exact HO_6.out) hb); have n2_ := Aside0.mk (below_step (by repeat (first | (with_reducible first | exact HB.out | apply below_alloc | apply pw_below_drewN | apply below_drew1) | exact HB.out)) hb); clear HO_5; clear HO_6; clear HB; have HO_5 := n0_; have HO_6 := n1_; have HB := n2_; clear n0_ n1_ n2_; (try clear hb); (try clear hb2); (try clear hk); (try clear hi)))
                        go_ret
                        exact ⟨by first | rfl | (simp [errW_none, errW_some] <;> rfl) | (simp [*, errW_none, errW_some] <;> rfl), by repeat (first | (with_reducible first | exact HB.out | apply below_alloc | apply pw_below_drewN | apply below_drew1) | exact HB.out)⟩
                    · rw [if_neg c18] at H
                      exact absurd H (by simp)
                  · rw [if_neg c17] at H
                    exact absurd H (by simp)
                · rw [if_neg c16] at H
                  have c16b0 : decide (x10_2 < (t111.length : Int)) = false := decide_eq_false c16
                  clear c16
                  replace H := Option.bind_eq_some_iff.mp H
                  obtain ⟨t117, A230, H⟩ := H
                  replace H : (if t117 = 0 then (semver_comparePrerelease.l0 kj11 t108 t111 (t108.length : Int) (t111.length : Int) x9_4 (wrap64 (x10_2 + 1))) else (some t117)) = some r := H
                  have A23 := Aside0.mk A230
                  clear A230
                  by_cases c24 : t117 = 0
                  · rw [if_pos c24] at H
                    have c24b0 : (t117 == 0) = true := beq_iff_eq.mpr c24
                    have c24b1 : (t117 != 0) = false := bne_eq_false_iff_eq.mpr c24
                    clear c24
                    have H' := Aside0.mk H
                    clear H
                    go_wp2_with (first | ((with_reducible refine gate_callee (f := 162) rfl ?_); refine goesL_ (some 48) rfl rfl Tryd.func162 (by kernel_rfl) rfl #[.string x11_11, .string (⟨#[]⟩ : ByteArray)] rfl (by (try simp only [List.map_toArray, List.map_cons, List.map_nil]); first | done | rfl | (simp only [List.length_drop, List.length_take]; rfl)) ?_; (with_reducible refine (Hand.comparePrePart.calls x11_11 (⟨#[]⟩ : ByteArray) t117 _ ?gl3 A23.out).mono ?_); (case gl3 => first | exact HG.out | exact Hand.Gl.below HG.out (by repeat (first | (with_reducible first | exact HB.out | apply below_alloc | apply pw_below_drewN | apply below_drew1) | exact HB.out))); rintro e w25 ⟨rfl, hb⟩; refine ⟨_, rfl, ?_⟩; have n0_ := Aside0.mk (Kd.R_below (by (with_reducible repeat (first | apply Kd.R_alloc | apply Kd.R_drewN | apply Kd.R_drew)); exact HO_5.out) hb); have n1_ := Aside0.mk (Kd.R_below (by (with_reducible repeat (first | apply Kd.R_alloc | apply Kd.R_drewN | apply Kd.R_drew)); exact HO_6.out) hb); have n2_ := Aside0.mk (below_step (by repeat (first | (with_reducible first | exact HB.out | apply below_alloc | apply pw_below_drewN | apply below_drew1) | exact HB.out)) hb); clear HO_5; clear HO_6; clear HB; have HO_5 := n0_; have HO_6 := n1_; have HB := n2_; clear n0_ n1_ n2_; (try clear hb); (try clear hb2); (try clear hk); (try clear hi)))
                    go_roundg kj11
                    case measure => have := HJ4.out; have := HK2.out; have := HJ11.out; omega
                    case rel => exact ⟨(wrap64 (x10_2 + 1)), (by first | rfl | (simp; done) | (simp [*]; done)), H', ⟨by have := HJ4.out; have := HK2.out; have := HJ11.out; omega⟩, ⟨by (with_reducible repeat (first | apply Kd.R_alloc | apply Kd.R_drewN | apply Kd.R_drew)); exact HO_5.out⟩, ⟨by (with_reducible repeat (first | apply Kd.R_alloc | apply Kd.R_drewN | apply Kd.R_drew)); exact HO_6.out⟩, ⟨by repeat (first | (with_reducible first | exact HB.out | apply below_alloc | apply pw_below_drewN | apply below_drew1) | exact HB.out)⟩⟩
                  · rw [if_neg c24] at H
                    have c24b0 : (t117 == 0) = false := beq_eq_false_iff_ne.mpr c24
                    have c24b1 : (t117 != 0) = true := bne_iff_ne.mpr c24
                    obtain rfl := Option.some.inj H
                    go_wp2_with (first | ((with_reducible refine gate_callee (f := 162) rfl ?_); refine goesL_ (some 48) rfl rfl Tryd.func162 (by kernel_rfl) rfl #[.string x11_11, .string (⟨#[]⟩ : ByteArray)] rfl (by (try simp only [List.map_toArray, List.map_cons, List.map_nil]); first | done | rfl | (simp only [List.length_drop, List.length_take]; rfl)) ?_; (with_reducible refine (Hand.comparePrePart.calls x11_11 (⟨#[]⟩ : ByteArray) t117 _ ?gl4 A23.out).mono ?_); (case gl4 => first | exact HG.out | exact Hand.Gl.below HG.out (by repeat (first | (with_reducible first | exact HB.out | apply below_alloc | apply pw_below_drewN | apply below_drew1) | exact HB.out))); rintro e w26 ⟨rfl, hb⟩; refine ⟨_, rfl, ?_⟩; have n0_ := Aside0.mk (Kd.R_below (by (with_reducible repeat (first | apply Kd.R_alloc | apply Kd.R_drewN | apply Kd.R_drew)); exact HO_5.out) hb); have n1_ := Aside0.mk (Kd.R_below (by (with_reducible repeat (first | apply Kd.R_alloc | apply Kd.R_drewN | apply Kd.R_drew)); exact HO_6.out) hb); have n2_ := Aside0.mk (below_step (by repeat (first | (with_reducible first | exact HB.out | apply below_alloc | apply pw_below_drewN | apply below_drew1) | exact HB.out)) hb); clear HO_5; clear HO_6; clear HB; have HO_5 := n0_; have HO_6 := n1_; have HB := n2_; clear n0_ n1_ n2_; (try clear hb); (try clear hb2); (try clear hk); (try clear hi)))
                    go_ret
                    exact ⟨by first | rfl | (simp [errW_none, errW_some] <;> rfl) | (simp [*, errW_none, errW_some] <;> rfl), by repeat (first | (with_reducible first | exact HB.out | apply below_alloc | apply pw_below_drewN | apply below_drew1) | exact HB.out)⟩
          · rw [if_neg c11] at H
            have c11b0 : decide (x10_2 < x9_4) = false := decide_eq_false c11
            clear c11
            obtain rfl := Option.some.inj H
            go_wp2
            go_ret
            exact ⟨by first | rfl | (simp [errW_none, errW_some] <;> rfl) | (simp [*, errW_none, errW_some] <;> rfl), by repeat (first | (with_reducible first | exact HB.out | apply below_alloc | apply pw_below_drewN | apply below_drew1) | exact HB.out)⟩

end Go.Proofs.YtalpehfjjidfhaaDoor.MA
