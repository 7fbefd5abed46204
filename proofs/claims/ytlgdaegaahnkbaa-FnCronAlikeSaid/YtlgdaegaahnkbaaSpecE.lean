/- The reference's calendar: what its printed functions answer. -/
import Derived.Test.YtlgdaegaahnkbaaSpecD
namespace Go.Proofs.Ytlgdaegaahnkbaa.Tm
open Go Go.RowKit Cal MC
set_option linter.unusedVariables false
set_option linter.unusedSimpArgs false
theorem leap_f (y : Int) (h0 : 0 ≤ y) : spec_CronLeap.f y = some (lp y == 1) := by
  unfold spec_CronLeap.f lp
  rw [Int.tmod_eq_emod_of_nonneg h0, Int.tmod_eq_emod_of_nonneg h0, Int.tmod_eq_emod_of_nonneg h0]
  by_cases h4 : y % 4 = 0
  · rw [if_pos h4]
    by_cases h1 : y % 100 = 0
    · rw [if_pos h1]
      by_cases h2 : y % 400 = 0
      · rw [if_pos ⟨h4, Or.inr h2⟩, h2]; rfl
      · rw [if_neg (by omega)]
        congr 1
        rw [beq_eq_false_iff_ne.2 h2]; rfl
    · rw [if_neg h1, if_pos ⟨h4, Or.inl h1⟩]; rfl
  · rw [if_neg h4, if_neg (by omega)]; rfl
theorem monthDays_f (y m : Int) (h0 : 0 ≤ y) : spec_CronMonthDays.f y m = some (md y m) := by
  unfold spec_CronMonthDays.f md
  by_cases h2 : m = 2
  · rw [if_pos h2, if_pos h2, leap_f y h0]
    simp only [Option.bind_some]
    have := lp01 y
    by_cases hl : lp y = 1
    · rw [hl]; rfl
    · rw [show lp y = 0 by omega]; rfl
  · rw [if_neg h2, if_neg h2]
    by_cases h4 : m = 4
    · rw [if_pos h4, if_pos (Or.inl h4)]
    · by_cases h6 : m = 6
      · rw [if_neg h4, if_pos h6, if_pos (by omega)]
      · by_cases h9 : m = 9
        · rw [if_neg h4, if_neg h6, if_pos h9, if_pos (by omega)]
        · by_cases h11 : m = 11
          · rw [if_neg h4, if_neg h6, if_neg h9, if_pos h11, if_pos (by omega)]
          · rw [if_neg h4, if_neg h6, if_neg h9, if_neg h11, if_neg (by omega)]
theorem tomorrow_f (n : Int) (h0 : -719162 ≤ n) (h1 : n ≤ 3100000) : spec_CronTomorrow.f (yr n) (mo n) (dy n) = some (yr (n + 1), mo (n + 1), dy (n + 1)) := by
  have hy := yr_bd h0 h1
  have hm := mo_bd n
  have hd := dy_bd n
  have hb := md_bd (yr n) (mo n)
  have hn := next_day n
  have hi := in_month n
  have he := me_ms n
  have hq := num_eq n
  have hx := next_month n
  unfold spec_CronTomorrow.f
  rw [monthDays_f _ _ (by omega)]
  simp only [Option.bind_some]
  by_cases c : dy n < md (yr n) (mo n)
  · have := hn.1 (by omega)
    rw [if_pos c, w64_in _ (by omega) (by omega), this.1, this.2.1, this.2.2]
  · have e : n + 1 = me n := hn.2 (by omega)
    rw [if_neg c, e]
    by_cases c2 : mo n < 12
    · rw [if_pos c2, w64_in _ (by omega) (by omega), (hx.2.1 c2).1, (hx.2.1 c2).2, hx.1]
    · rw [if_neg c2, w64_in _ (by omega) (by omega), (hx.2.2 (by omega)).1, (hx.2.2 (by omega)).2, hx.1]
end Go.Proofs.Ytlgdaegaahnkbaa.Tm
