/- What is proved: a job in a chain of up to 100 wrappers leaves what the reference says; the printed law's plain part. No condition. -/
import Derived.Test.YtlnidaidpdbaiaaMLx1
namespace Go.Proofs.Ytlnidaidpdbaiaa.Pure
open Go Go.RowKit Go.Proofs.Ytlnidaidpdbaiaa.ML Go.Proofs.YtlnidaidpdbaiaaW.PrintWords Go.Proofs.YtlnidaidpdbaiaaW.PrintLast
theorem w64 (n : Int) (h0 : -9223372036854775808 ≤ n) (h1 : n ≤ 9223372036854775807) : wrap64 n = n := IntWalk.wrap64_in n ⟨h0, h1⟩
theorem same_l (xs : List Int) (hx : xs.length ≤ 1000) : ∀ (k i : Nat), i ≤ xs.length → xs.length - i < k → laws_entriesSame.l0 k xs xs (xs.length : Int) (i : Int) = some true := by
  intro k
  induction k with
  | zero => intro i h1 h2; omega
  | succ k ih =>
    intro i h1 h2
    rw [laws_entriesSame.l0]
    by_cases c : i < xs.length
    · rw [if_pos (by omega), if_pos (by omega), if_pos (by omega), if_pos (by omega), if_pos rfl, w64 _ (by omega) (by omega)]
      have := ih (i + 1) (by omega) (by omega)
      simpa using this
    · rw [if_neg (by omega)]
theorem same_f (xs : List Int) (hx : xs.length ≤ 1000) (k : Nat) (hk : xs.length < k) : laws_entriesSame.f k xs xs = some true := by
  unfold laws_entriesSame.f
  rw [if_pos rfl]
  have := same_l xs hx k 0 (by omega) (by omega)
  simpa using this
theorem trace_f : ∀ (k : Nat) (l : List Int), l.length < k → l.length ≤ 100 → spec_ChainTrace.f k l = some (Ch.nest l) := by
  intro k
  induction k with
  | zero => intro l h; omega
  | succ k ih =>
    intro l h1 h2
    match l, h1, h2 with
    | [], _, _ => rfl
    | a :: r, h1, h2 =>
      have e := ih r (by simp at h1; omega) (by simp at h2; omega)
      have hl := Ch.nest_length r
      rw [spec_ChainTrace.f, if_neg (by simp only [List.length_cons]; omega), if_pos (by simp only [List.length_cons]; omega)]
      simp only [Option.bind_some, List.drop_one, List.tail_cons]
      rw [if_pos (by simp only [List.length_cons]; omega), e]
      simp only [Option.bind_some]
      rw [if_pos (by simp at h2 ⊢; omega), if_pos (by simp at h2 ⊢; omega)]
      simp [Ch.nest, rd]
theorem FnChainTrace : laws_FnChainTrace.Pure := by
  intro l _ _ _
  refine ⟨300, ?_⟩
  unfold laws_FnChainTrace.f
  by_cases c : (l.length : Int) > 2147483647
  · rw [if_pos c]
  · rw [if_neg c]
    by_cases d : (l.length : Int) > 100
    · rw [if_pos d]
    · rw [if_neg d]
      unfold Hand.ChainTrace.f
      rw [if_pos (by omega), trace_f 300 l (by omega) (by omega)]
      have := same_f (Ch.nest l) (by rw [Ch.nest_length]; omega) 300 (by rw [Ch.nest_length]; omega)
      simp only [Option.bind_some, this]
end Go.Proofs.Ytlnidaidpdbaiaa.Pure
