/- The reference's small functions at the zone of no offsets, by hand. -/
import Derived.Test.YtlgdaegaahnkbaaSpecC
import Derived.Test.YtlgdaegaahnkbaaMCx1
namespace Go.Proofs.Ytlgdaegaahnkbaa.Tm
open Go Go.RowKit Cal MC
open Go.Proofs.YtlgdaegaahnkbaaW.PrintWords
set_option linter.unusedVariables false
set_option linter.unusedSimpArgs false
theorem utcZone_any (w : World) : Calls Try.prog 14 #[] w fun e w' => e = .returned (.agg #[.slice none 0 0, .slice none 0 0, .slice none 0 0, .slice none 0 0]) ∧ Below w.heap.size w w' := by
  go_enter Try.func14, Try.ntmps14
  go_wp2
  refine bodyPost_ret (v := .agg #[.slice none 0 0, .slice none 0 0, .slice none 0 0, .slice none 0 0]) (by simp [results, Try.results14, go_sem]) rfl ⟨rfl, ?_⟩
  exact (Below.refl _ _).alloc (Nat.le_refl _) _
theorem offset_any (x : Int) (w : World) : Calls Try.prog 40 #[.agg #[.slice none 0 0, .slice none 0 0, .slice none 0 0, .slice none 0 0], .int .i64 x] w fun e w' => e = .returned (.int .i64 0) ∧ Below w.heap.size w w' := by
  go_enter Try.func40, Try.ntmps40
  go_wp2
  refine wp_loop_rounds 1 ?_
  rw [rounds_succ]
  go_wp2
  go_ret
  exact ⟨rfl, (Below.refl _ _).alloc (Nat.le_refl _) _⟩
theorem change_any (x : Int) (w : World) : Calls Try.prog 65 #[.agg #[.slice none 0 0, .slice none 0 0, .slice none 0 0, .slice none 0 0], .int .i64 x] w fun e w' => e = .returned (.tuple #[.int .i64 0, .bool false]) ∧ Below w.heap.size w w' := by
  go_enter Try.func65, Try.ntmps65
  go_wp2
  refine wp_loop_rounds 1 ?_
  rw [rounds_succ]
  go_wp2
  go_ret2
  exact ⟨rfl, (Below.refl _ _).alloc (Nat.le_refl _) _⟩
theorem floorDiv_86400 (a : Int) (h0 : -1000000000000 ≤ a) (h1 : a ≤ 1000000000000) : spec_floorDiv.f a 86400 = some (a / 86400) := by
  unfold spec_floorDiv.f
  rw [if_neg (by decide)]
  rcases Int.lt_or_le a 0 with h | h
  · obtain ⟨x, rfl⟩ : ∃ x, a = -x := ⟨-a, by omega⟩
    rw [Int.neg_tmod, Int.neg_tdiv, Int.tmod_eq_emod_of_nonneg (by omega), Int.tdiv_eq_ediv_of_nonneg (by omega), w64_in (-(x / 86400)) (by omega) (by omega)]
    by_cases hm : -(x % 86400) < 0
    · rw [if_pos hm, w64_in _ (by omega) (by omega)]
      congr 1
      omega
    · rw [if_neg hm]
      congr 1
      omega
  · rw [Int.tmod_eq_emod_of_nonneg h, Int.tdiv_eq_ediv_of_nonneg h, if_neg (by omega), w64_in _ (by omega) (by omega)]
theorem floorDiv_366 (a : Int) (h0 : -1000000000000 ≤ a) (h1 : a ≤ 1000000000000) : spec_floorDiv.f a 366 = some (a / 366) := by
  unfold spec_floorDiv.f
  rw [if_neg (by decide)]
  rcases Int.lt_or_le a 0 with h | h
  · obtain ⟨x, rfl⟩ : ∃ x, a = -x := ⟨-a, by omega⟩
    rw [Int.neg_tmod, Int.neg_tdiv, Int.tmod_eq_emod_of_nonneg (by omega), Int.tdiv_eq_ediv_of_nonneg (by omega), w64_in (-(x / 366)) (by omega) (by omega)]
    by_cases hm : -(x % 366) < 0
    · rw [if_pos hm, w64_in _ (by omega) (by omega)]
      congr 1
      omega
    · rw [if_neg hm]
      congr 1
      omega
  · rw [Int.tmod_eq_emod_of_nonneg h, Int.tdiv_eq_ediv_of_nonneg h, if_neg (by omega), w64_in _ (by omega) (by omega)]
theorem floorDiv_365 (a : Int) (h0 : -1000000000000 ≤ a) (h1 : a ≤ 1000000000000) : spec_floorDiv.f a 365 = some (a / 365) := by
  unfold spec_floorDiv.f
  rw [if_neg (by decide)]
  rcases Int.lt_or_le a 0 with h | h
  · obtain ⟨x, rfl⟩ : ∃ x, a = -x := ⟨-a, by omega⟩
    rw [Int.neg_tmod, Int.neg_tdiv, Int.tmod_eq_emod_of_nonneg (by omega), Int.tdiv_eq_ediv_of_nonneg (by omega), w64_in (-(x / 365)) (by omega) (by omega)]
    by_cases hm : -(x % 365) < 0
    · rw [if_pos hm, w64_in _ (by omega) (by omega)]
      congr 1
      omega
    · rw [if_neg hm]
      congr 1
      omega
  · rw [Int.tmod_eq_emod_of_nonneg h, Int.tdiv_eq_ediv_of_nonneg h, if_neg (by omega), w64_in _ (by omega) (by omega)]
theorem floorDiv_4 (a : Int) (h0 : -1000000000000 ≤ a) (h1 : a ≤ 1000000000000) : spec_floorDiv.f a 4 = some (a / 4) := by
  unfold spec_floorDiv.f
  rw [if_neg (by decide)]
  rcases Int.lt_or_le a 0 with h | h
  · obtain ⟨x, rfl⟩ : ∃ x, a = -x := ⟨-a, by omega⟩
    rw [Int.neg_tmod, Int.neg_tdiv, Int.tmod_eq_emod_of_nonneg (by omega), Int.tdiv_eq_ediv_of_nonneg (by omega), w64_in (-(x / 4)) (by omega) (by omega)]
    by_cases hm : -(x % 4) < 0
    · rw [if_pos hm, w64_in _ (by omega) (by omega)]
      congr 1
      omega
    · rw [if_neg hm]
      congr 1
      omega
  · rw [Int.tmod_eq_emod_of_nonneg h, Int.tdiv_eq_ediv_of_nonneg h, if_neg (by omega), w64_in _ (by omega) (by omega)]
theorem floorDiv_100 (a : Int) (h0 : -1000000000000 ≤ a) (h1 : a ≤ 1000000000000) : spec_floorDiv.f a 100 = some (a / 100) := by
  unfold spec_floorDiv.f
  rw [if_neg (by decide)]
  rcases Int.lt_or_le a 0 with h | h
  · obtain ⟨x, rfl⟩ : ∃ x, a = -x := ⟨-a, by omega⟩
    rw [Int.neg_tmod, Int.neg_tdiv, Int.tmod_eq_emod_of_nonneg (by omega), Int.tdiv_eq_ediv_of_nonneg (by omega), w64_in (-(x / 100)) (by omega) (by omega)]
    by_cases hm : -(x % 100) < 0
    · rw [if_pos hm, w64_in _ (by omega) (by omega)]
      congr 1
      omega
    · rw [if_neg hm]
      congr 1
      omega
  · rw [Int.tmod_eq_emod_of_nonneg h, Int.tdiv_eq_ediv_of_nonneg h, if_neg (by omega), w64_in _ (by omega) (by omega)]
theorem floorDiv_400 (a : Int) (h0 : -1000000000000 ≤ a) (h1 : a ≤ 1000000000000) : spec_floorDiv.f a 400 = some (a / 400) := by
  unfold spec_floorDiv.f
  rw [if_neg (by decide)]
  rcases Int.lt_or_le a 0 with h | h
  · obtain ⟨x, rfl⟩ : ∃ x, a = -x := ⟨-a, by omega⟩
    rw [Int.neg_tmod, Int.neg_tdiv, Int.tmod_eq_emod_of_nonneg (by omega), Int.tdiv_eq_ediv_of_nonneg (by omega), w64_in (-(x / 400)) (by omega) (by omega)]
    by_cases hm : -(x % 400) < 0
    · rw [if_pos hm, w64_in _ (by omega) (by omega)]
      congr 1
      omega
    · rw [if_neg hm]
      congr 1
      omega
  · rw [Int.tmod_eq_emod_of_nonneg h, Int.tdiv_eq_ediv_of_nonneg h, if_neg (by omega), w64_in _ (by omega) (by omega)]
theorem floorDiv_7 (a : Int) (h0 : -1000000000000 ≤ a) (h1 : a ≤ 1000000000000) : spec_floorDiv.f a 7 = some (a / 7) := by
  unfold spec_floorDiv.f
  rw [if_neg (by decide)]
  rcases Int.lt_or_le a 0 with h | h
  · obtain ⟨x, rfl⟩ : ∃ x, a = -x := ⟨-a, by omega⟩
    rw [Int.neg_tmod, Int.neg_tdiv, Int.tmod_eq_emod_of_nonneg (by omega), Int.tdiv_eq_ediv_of_nonneg (by omega), w64_in (-(x / 7)) (by omega) (by omega)]
    by_cases hm : -(x % 7) < 0
    · rw [if_pos hm, w64_in _ (by omega) (by omega)]
      congr 1
      omega
    · rw [if_neg hm]
      congr 1
      omega
  · rw [Int.tmod_eq_emod_of_nonneg h, Int.tdiv_eq_ediv_of_nonneg h, if_neg (by omega), w64_in _ (by omega) (by omega)]
theorem floorDay_c (a : Int) (w : World) (h0 : -1000000000000 ≤ a) (h1 : a ≤ 1000000000000) : Calls Try.prog 41 #[.int .i64 a, .int .i64 86400] w fun e w' => e = .returned (.int .i64 (a / 86400)) ∧ Below w.heap.size w w' :=
  (spec_floorDiv.calls a 86400 _ w (floorDiv_86400 a h0 h1)).mono fun _ _ ⟨he, hd⟩ => ⟨he, hd.below⟩
theorem yearStart_f (y : Int) (h0 : -10000 ≤ y) (h1 : y ≤ 20000) : spec_CronYearStart.f y = some (ys y) := by
  unfold spec_CronYearStart.f
  rw [w64_in (y - 1) (by omega) (by omega), floorDiv_4 _ (by omega) (by omega), floorDiv_100 _ (by omega) (by omega), floorDiv_400 _ (by omega) (by omega)]
  simp only [Option.bind_some]
  rw [w64_in (365 * (y - 1)) (by omega) (by omega), w64_in (365 * (y - 1) + (y - 1) / 4) (by omega) (by omega), w64_in (365 * (y - 1) + (y - 1) / 4 - (y - 1) / 100) (by omega) (by omega), w64_in (365 * (y - 1) + (y - 1) / 4 - (y - 1) / 100 + (y - 1) / 400) (by omega) (by omega), w64_in _ (by omega) (by omega)]
  rfl
end Go.Proofs.Ytlgdaegaahnkbaa.Tm
