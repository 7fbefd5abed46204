/- The first day from a year on with a month, a day and a weekday: plain laws, and CronFirstDay by hand. -/
import Derived.Test.YtlgdaegaahnkbaaCnt
namespace Go.Proofs.Ytlgdaegaahnkbaa.Tm
open Go Go.RowKit Cal MC
open Go.Proofs.YtlgdaegaahnkbaaW.PrintWords Go.Proofs.YtlgdaegaahnkbaaW.PrintLast Go.Proofs.YtlgdaegaahnkbaaW.PrintMore
set_option linter.unusedVariables false
set_option linter.unusedSimpArgs false
theorem day_l0 (y m d : Int) (y0 : 0 ≤ y) (y1 : y ≤ 11000) (m1 : m ≤ 12) (d0 : 0 ≤ d) (d1 : d ≤ 31) : ∀ (k : Nat) (j : Int), 1 ≤ j → j ≤ m → m - j < (k : Int) → spec_CronDay.l0 k (ys y + cu y j) j y m d = some (num y m d) := by
  have hys : -800000 ≤ ys y ∧ ys y ≤ 4100000 := by unfold ys; omega
  intro k
  induction k with
  | zero => intro j h1 h2 h3; omega
  | succ k ih =>
    intro j h1 h2 h3
    have hcu : 0 ≤ cu y j ∧ cu y j ≤ 400 := by
      have := lp01 y
      unfold cu
      split
      · omega
      · split <;> omega
    unfold spec_CronDay.l0
    by_cases c : j < m
    · rw [if_pos c, monthDays_f y j y0]
      have hm := md_bd y j
      simp only [Option.bind_some]
      rw [w64_in (ys y + cu y j + md y j) (by omega) (by omega), w64_in (j + 1) (by omega) (by omega), Int.add_assoc, ← cu_succ y j h1 (by omega)]
      exact ih (j + 1) (by omega) (by omega) (by omega)
    · rw [if_neg c]
      obtain rfl : j = m := by omega
      rw [w64_in (ys y + cu y j + d) (by omega) (by omega), w64_in _ (by omega) (by omega)]
      rfl
theorem day_c (y m d : Int) (w : World) (y0 : 0 ≤ y) (y1 : y ≤ 11000) (m0 : 1 ≤ m) (m1 : m ≤ 12) (d0 : 0 ≤ d) (d1 : d ≤ 31) :
    Calls Try.prog 71 #[.agg #[.int .i64 y, .int .i64 m, .int .i64 d]] w fun e w' => e = .returned (.int .i64 (num y m d)) ∧ Below w.heap.size w w' :=
  spec_CronDay.calls 13 y m d _ w (by
    unfold spec_CronDay.f
    rw [yearStart_f y (by omega) (by omega)]
    simp only [Option.bind_some]
    have := day_l0 y m d y0 y1 m1 d0 d1 13 1 (by omega) m0 (by omega)
    rwa [cu1, Int.add_zero] at this)
theorem monthDays_c (y m : Int) (w : World) (y0 : 0 ≤ y) : Calls Try.prog 68 #[.int .i64 y, .int .i64 m] w fun e w' => e = .returned (.int .i64 (md y m)) ∧ Below w.heap.size w w' :=
  (spec_CronMonthDays.calls y m _ w (monthDays_f y m y0)).mono fun _ _ ⟨he, hd⟩ => ⟨he, hd.below⟩
/-- 400 years later all is as it was. -/
theorem far_year (y m d : Int) (k : Int) : md (y + 400 * k) m = md y m ∧ wd (num (y + 400 * k) m d) = wd (num y m d) := by
  have e : lp (y + 400 * k) = lp y := by
    unfold lp
    rw [show (y + 400 * k) % 4 = y % 4 by omega, show (y + 400 * k) % 100 = y % 100 by omega, show (y + 400 * k) % 400 = y % 400 by omega]
  have e2 : cu (y + 400 * k) m = cu y m := by unfold cu; rw [e]
  refine ⟨by unfold md; rw [e], ?_⟩
  unfold num wd
  rw [e2]
  unfold ys
  omega
/-- Whether a year has the day on the weekday. -/
def hasDay (y m d v : Int) : Bool := decide (d ≤ md y m) && decide (wd (num y m d) = v)
def everyDay : Bool := (List.range 12).all fun m => (List.range 31).all fun d => (List.range 7).all fun v =>
  if ((d : Int) + 1 ≤ md 2000 ((m : Int) + 1)) then (List.range 400).any fun y => hasDay ((2000 : Int) + (y : Int)) ((m : Int) + 1) ((d : Int) + 1) (v : Int) else true
set_option maxRecDepth 1000000 in
theorem every_day : everyDay = true := by decide +kernel
theorem some_year (Y m d v : Int) (m0 : 1 ≤ m) (m1 : m ≤ 12) (d0 : 1 ≤ d) (d1 : d ≤ md 2000 m) (v0 : 0 ≤ v) (v1 : v ≤ 6) : ∃ y, Y ≤ y ∧ y < Y + 400 ∧ hasDay y m d v = true := by
  have hb := md_bd 2000 m
  have h := every_day
  unfold everyDay at h
  rw [List.all_eq_true] at h
  have h1 := h (m - 1).toNat (by rw [List.mem_range]; omega)
  rw [List.all_eq_true] at h1
  have h2 := h1 (d - 1).toNat (by rw [List.mem_range]; omega)
  rw [List.all_eq_true] at h2
  have h3 := h2 v.toNat (by rw [List.mem_range]; omega)
  rw [show (((m - 1).toNat : Nat) : Int) + 1 = m by omega, show (((d - 1).toNat : Nat) : Int) + 1 = d by omega, show ((v.toNat : Nat) : Int) = v by omega, if_pos d1, List.any_eq_true] at h3
  obtain ⟨z, hz, hd⟩ := h3
  obtain ⟨k, hk⟩ : ∃ k, k = (Y - (2000 + (z : Int)) + 399) / 400 := ⟨_, rfl⟩
  refine ⟨2000 + (z : Int) + 400 * k, by omega, by omega, ?_⟩
  unfold hasDay at hd ⊢
  rw [(far_year (2000 + (z : Int)) m d k).1, (far_year (2000 + (z : Int)) m d k).2]
  exact hd
theorem weekdayBig_c (n : Int) (w : World) (h0 : -719162 ≤ n) (h1 : n ≤ 5000000) : Calls Try.prog 44 #[.int .i64 n] w fun e w' => e = .returned (.int .i64 (wd n)) ∧ Below w.heap.size w w' :=
  (spec_CronWeekday.calls n _ w (by
    unfold spec_CronWeekday.f spec_floorMod.f
    rw [w64_in (n + 4) (by omega) (by omega), floorDiv_7 _ (by omega) (by omega)]
    simp only [Option.bind_some]
    rw [w64_in (7 * ((n + 4) / 7)) (by omega) (by omega), w64_in _ (by omega) (by omega)]
    congr 1
    show _ = (n + 4) % 7
    omega)).mono fun _ _ ⟨he, hd⟩ => ⟨he, hd.below⟩
/-- What CronFirstDay answers. -/
def FirstPost (Y m d v : Int) (W : World) (e : Ending) (w' : World) : Prop := ∃ n, e = .returned (.int .i64 n) ∧ (Y ≤ yr n ∧ yr n < Y + 400 ∧ mo n = m ∧ dy n = d ∧ wd n = v) ∧ Below W.heap.size W w'
theorem meas_year {a y k : Int} {g : Nat} (h : (a - y).toNat ≤ g) (h1 : y < a) : (a - (y + 1)).toNat < g := by omega
set_option maxHeartbeats 4000000 in
set_option maxRecDepth 100000 in
theorem firstDay_any (Y m d v : Int) (w : World) (Y0 : 1 ≤ Y) (Y1 : Y ≤ 10100) (m0 : 1 ≤ m) (m1 : m ≤ 12) (d0 : 1 ≤ d) (d1 : d ≤ md 2000 m) (v0 : 0 ≤ v) (v1 : v ≤ 6) :
    Calls Try.prog 50 #[.int .i64 Y, .int .i64 m, .int .i64 d, .int .i64 v] w (FirstPost Y m d v w) := by
  obtain ⟨ye, hy0, hy1, hye⟩ := some_year Y m d v m0 m1 d0 d1 v0 v1
  have hmd := md_bd 2000 m
  have HY := Aside0.mk (And.intro Y0 (And.intro Y1 (And.intro hy0 hy1)))
  have HM := Aside0.mk (And.intro m0 (And.intro m1 (And.intro d0 (show d ≤ 31 by omega))))
  have HV := Aside0.mk (And.intro v0 v1)
  have HE := Aside0.mk hye
  have HB := Aside0.mk (Below.refl w.heap.size w)
  clear Y0 Y1 hy0 hy1 hye m0 m1 d0 d1 v0 v1 hmd
  go_enter Try.func50, Try.ntmps50
  go_wp2_with fail
  go_loopg [0] (ye - Y).toNat (fun gk s0 wr => ∃ y : Int, s0 = .int .i64 y ∧ Aside0 (Below w.heap.size w wr) ∧ Aside0 (Y ≤ y ∧ y ≤ ye) ∧ Aside0 ((ye - y).toNat ≤ gk))
  case atStart => exact ⟨Y, rfl, HB, ⟨Int.le_refl _, HY.out.2.2.1⟩, ⟨Nat.le_refl _⟩⟩
  case round =>
    clear HB
    obtain ⟨y, rfl, HB, HA, HG⟩ := hrel
    have e1 : wrap64 (y + 1) = y + 1 := w64_in _ (by have := HA.out; have := HY.out; omega) (by have := HA.out; have := HY.out; omega)
    by_cases hd : d ≤ md y m
    · have f1 : decide (md y m < d) = false := decide_eq_false (by omega)
      have HVD := Aside0.mk (show Valid y m d from ⟨HM.out.1, HM.out.2.1, HM.out.2.2.1, hd⟩)
      have HDD := Aside0.mk hd
      obtain ⟨n, hn⟩ : ∃ n, n = num y m d := ⟨_, rfl⟩
      have HN := Aside0.mk hn
      have HR : Aside0 (-719162 ≤ n ∧ n ≤ 5000000) := ⟨by
        have h0 := num_year HVD.out
        have h1 : ys y = 365 * (y - 1) + (y - 1) / 4 - (y - 1) / 100 + (y - 1) / 400 - 719162 := rfl
        have h2 : ys (y + 1) = 365 * y + y / 4 - y / 100 + y / 400 - 719162 := by unfold ys; rw [show y + 1 - 1 = y by omega]
        have h3 := HA.out
        have h4 := HY.out
        rw [← hn] at h0
        omega⟩
      have CD : Aside0 (∀ w', Calls Try.prog 71 #[.agg #[.int .i64 y, .int .i64 m, .int .i64 d]] w' fun e w'' => e = .returned (.int .i64 n) ∧ Below w'.heap.size w' w'') := ⟨fun w' => by
        rw [hn]
        exact day_c y m d w' (by have := HA.out; have := HY.out; omega) (by have := HA.out; have := HY.out; omega) HM.out.1 HM.out.2.1 (by have := HM.out; omega) HM.out.2.2.2⟩
      clear hd hn
      by_cases hw : wd n = v
      · have f2 : (wd n == v) = true := beq_iff_eq.2 hw
        have HWD := Aside0.mk hw
        clear hw
        go_wp2_with (first | (go_at_call 68; (with_reducible refine (monthDays_c y m _ (by have := HA.out; have := HY.out; omega)).mono ?_); rintro e w1 ⟨rfl, hb⟩; have HB2 := Aside0.mk (HB.out.trans (hb.mono HB.out.size)); clear HB hb; have HB := HB2; clear HB2) | (go_at_call 71; (with_reducible refine (CD.out _).mono ?_); rintro e w1 ⟨rfl, hb⟩; have HB2 := Aside0.mk (HB.out.trans (hb.mono HB.out.size)); clear HB hb; have HB := HB2; clear HB2) | (go_at_call 44; (with_reducible refine (weekdayBig_c n _ HR.out.1 HR.out.2).mono ?_); rintro e w1 ⟨rfl, hb⟩; have HB2 := Aside0.mk (HB.out.trans (hb.mono HB.out.size)); clear HB hb; have HB := HB2; clear HB2))
        go_ret
        have hdt := date_of HVD.out
        rw [← HN.out] at hdt
        exact ⟨n, rfl, ⟨by rw [hdt.1]; exact HA.out.1, by rw [hdt.1]; have := HA.out; have := HY.out; omega, hdt.2.1, hdt.2.2, HWD.out⟩, HB.out⟩
      · have f2 : (wd n == v) = false := beq_eq_false_iff_ne.2 hw
        have HLT : Aside0 (y < ye) := ⟨by
          rcases Int.lt_or_le y ye with c | c
          · exact c
          · have h5 : y = ye := by have := HA.out; omega
            have h := HE.out
            unfold hasDay at h
            rw [Bool.and_eq_true, decide_eq_true_eq, decide_eq_true_eq, ← h5, ← HN.out] at h
            exact absurd h.2 hw⟩
        clear hw
        go_wp2_with (first | (go_at_call 68; (with_reducible refine (monthDays_c y m _ (by have := HA.out; have := HY.out; omega)).mono ?_); rintro e w1 ⟨rfl, hb⟩; have HB2 := Aside0.mk (HB.out.trans (hb.mono HB.out.size)); clear HB hb; have HB := HB2; clear HB2) | (go_at_call 71; (with_reducible refine (CD.out _).mono ?_); rintro e w1 ⟨rfl, hb⟩; have HB2 := Aside0.mk (HB.out.trans (hb.mono HB.out.size)); clear HB hb; have HB := HB2; clear HB2) | (go_at_call 44; (with_reducible refine (weekdayBig_c n _ HR.out.1 HR.out.2).mono ?_); rintro e w1 ⟨rfl, hb⟩; have HB2 := Aside0.mk (HB.out.trans (hb.mono HB.out.size)); clear HB hb; have HB := HB2; clear HB2))
        go_roundg (ye - (y + 1)).toNat
        case measure => exact meas_year (k := 0) HG.out HLT.out
        case rel => exact ⟨y + 1, by first | rfl | go_num, HB, ⟨by have := HA.out; omega, by have := HLT.out; omega⟩, ⟨Nat.le_refl _⟩⟩
    · have f1 : decide (md y m < d) = true := decide_eq_true (by omega)
      have HLT : Aside0 (y < ye) := ⟨by
        rcases Int.lt_or_le y ye with c | c
        · exact c
        · have : y = ye := by have := HA.out; omega
          have h := HE.out
          unfold hasDay at h
          rw [Bool.and_eq_true, decide_eq_true_eq] at h
          rw [this] at hd
          exact absurd h.1 hd⟩
      clear hd
      go_wp2_with (go_at_call 68; (with_reducible refine (monthDays_c y m _ (by have := HA.out; have := HY.out; omega)).mono ?_); rintro e w1 ⟨rfl, hb⟩; have HB2 := Aside0.mk (HB.out.trans (hb.mono HB.out.size)); clear HB hb; have HB := HB2; clear HB2)
      go_roundg (ye - (y + 1)).toNat
      case measure => exact meas_year (k := 0) HG.out HLT.out
      case rel => exact ⟨y + 1, by first | rfl | go_num, HB, ⟨by have := HA.out; omega, by have := HLT.out; omega⟩, ⟨Nat.le_refl _⟩⟩
end Go.Proofs.Ytlgdaegaahnkbaa.Tm
