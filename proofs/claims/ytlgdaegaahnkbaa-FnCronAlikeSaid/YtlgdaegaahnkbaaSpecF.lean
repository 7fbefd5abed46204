/- The reference's date of a day: what its printed function answers. -/
import Derived.Test.YtlgdaegaahnkbaaSpecE
namespace Go.Proofs.Ytlgdaegaahnkbaa.Tm
open Go Go.RowKit Cal MC
set_option linter.unusedVariables false
set_option linter.unusedSimpArgs false
theorem cu0 (y m : Int) (h : 1 ≤ m) : 0 ≤ cu y m := by
  have := lp01 y
  unfold cu
  split
  · omega
  · split
    · omega
    · omega
theorem dateL1 (n : Int) (n0 : -719162 ≤ n) (n1 : n ≤ 3100000) (d : Nat) : ∀ (k : Nat) (m : Int), 1 ≤ m → m ≤ 12 → (12 - m).toNat ≤ d → d < k → ys (yr n) + cu (yr n) m ≤ n →
    spec_CronDateOf.l1 k (yr n) (n - (ys (yr n) + cu (yr n) m)) m = some (yr n, mo n, dy n) := by
  have hy := yr_bd n0 n1
  have hin := yr_in n
  have hu := ys_succ (yr n)
  have hl := lp01 (yr n)
  induction d with
  | zero =>
    intro k m m0 m1 hd hk hle
    obtain ⟨k, rfl⟩ : ∃ j, k = j + 1 := ⟨k - 1, by omega⟩
    have hb := md_bd (yr n) m
    have h00 := cu0 (yr n) m m0
    rw [spec_CronDateOf.l1, monthDays_f _ _ (by omega)]
    simp only [Option.bind_some]
    by_cases c : md (yr n) m ≤ n - (ys (yr n) + cu (yr n) m)
    · have := (month_go rfl m0 m1 c).1
      omega
    · have he := month_end m0 m1 hle (by omega)
      rw [if_neg (by omega), w64_in _ (by omega) (by omega), he.2.1, he.2.2]
  | succ d ih =>
    intro k m m0 m1 hd hk hle
    obtain ⟨k, rfl⟩ : ∃ j, k = j + 1 := ⟨k - 1, by omega⟩
    have hb := md_bd (yr n) m
    have h00 := cu0 (yr n) m m0
    rw [spec_CronDateOf.l1, monthDays_f _ _ (by omega)]
    simp only [Option.bind_some]
    by_cases c : md (yr n) m ≤ n - (ys (yr n) + cu (yr n) m)
    · have hg := month_go rfl m0 m1 c
      have hs := cu_succ (yr n) m m0 m1
      rw [if_pos c, w64_in (n - (ys (yr n) + cu (yr n) m) - md (yr n) m) (by omega) (by omega), w64_in (m + 1) (by omega) (by omega)]
      rw [show n - (ys (yr n) + cu (yr n) m) - md (yr n) m = n - (ys (yr n) + cu (yr n) (m + 1)) by omega]
      exact ih k (m + 1) (by omega) (by omega) (by omega) (by omega) hg.2
    · have he := month_end m0 m1 hle (by omega)
      rw [if_neg (by omega), w64_in _ (by omega) (by omega), he.2.1, he.2.2]
theorem dateL0 (n : Int) (n0 : -719162 ≤ n) (n1 : n ≤ 3100000) (d : Nat) : ∀ (k : Nat) (y : Int), -1000 ≤ y → y ≤ yr n → (yr n - y).toNat ≤ d → d + 13 < k →
    spec_CronDateOf.l0 k n y = some (yr n, mo n, dy n) := by
  have hy := yr_bd n0 n1
  have hin := yr_in n
  have hu := ys_succ (yr n)
  have hl := lp01 (yr n)
  have fin : ∀ k, 13 < k → spec_CronDateOf.l0 k n (yr n) = some (yr n, mo n, dy n) := by
    intro k hk
    obtain ⟨k, rfl⟩ : ∃ j, k = j + 1 := ⟨k - 1, by omega⟩
    rw [spec_CronDateOf.l0, w64_in (yr n + 1) (by omega) (by omega), yearStart_f _ (by omega) (by omega)]
    simp only [Option.bind_some]
    rw [if_neg (by omega), yearStart_f _ (by omega) (by omega)]
    simp only [Option.bind_some]
    rw [w64_in (n - ys (yr n)) (by omega) (by omega)]
    have := dateL1 n n0 n1 12 k 1 (by omega) (by omega) (by omega) (by omega) (by rw [cu1]; omega)
    rw [cu1] at this
    rw [show n - ys (yr n) = n - (ys (yr n) + 0) by omega]
    exact this
  induction d with
  | zero =>
    intro k y y0 y1 hd hk
    obtain rfl : y = yr n := by omega
    exact fin k (by omega)
  | succ d ih =>
    intro k y y0 y1 hd hk
    rcases Int.lt_or_eq_of_le y1 with c | c
    · obtain ⟨k, rfl⟩ : ∃ j, k = j + 1 := ⟨k - 1, by omega⟩
      have hle : ys (y + 1) ≤ n := by
        rcases Int.lt_or_le n (ys (y + 1)) with h | h
        · have := yr_le.2 h; omega
        · exact h
      rw [spec_CronDateOf.l0, w64_in (y + 1) (by omega) (by omega), yearStart_f _ (by omega) (by omega)]
      simp only [Option.bind_some]
      rw [if_pos hle]
      exact ih k (y + 1) (by omega) (by omega) (by omega) (by omega)
    · rw [c]
      exact fin k (by omega)
theorem guess_le {n y : Int} (h : ys y ≤ n) : y ≤ yr n := by
  rcases Int.lt_or_le (yr n) y with c | c
  · have h1 : yr n ≤ y - 1 := by omega
    have := yr_le.1 h1
    rw [show y - 1 + 1 = y by omega] at this
    omega
  · exact c
theorem dateOf_f (n : Int) (n0 : -719162 ≤ n) (n1 : n ≤ 3100000) : ∃ k, spec_CronDateOf.f k n = some (yr n, mo n, dy n) := by
  have hy := yr_bd n0 n1
  refine ⟨20001, ?_⟩
  unfold spec_CronDateOf.f
  rw [floorDiv_366 _ (by omega) (by omega)]
  simp only [Option.bind_some]
  by_cases c : n < 0
  · rw [if_pos c, floorDiv_365 _ (by omega) (by omega)]
    simp only [Option.bind_some]
    rw [w64_in (1970 + n / 365) (by omega) (by omega), w64_in (1970 + n / 365 - 1) (by omega) (by omega), spec_CronDateOf.j0]
    exact dateL0 n n0 n1 19000 20000 _ (by omega) (guess_le (guess_neg c)) (by omega) (by omega)
  · rw [if_neg c, w64_in (1970 + n / 366) (by omega) (by omega), spec_CronDateOf.j0]
    exact dateL0 n n0 n1 19000 20000 _ (by omega) (guess_le (guess_pos (by omega))) (by omega) (by omega)
end Go.Proofs.Ytlgdaegaahnkbaa.Tm
