/- The plain law of FnSemverLeastCompares, and what the law's function answers: no program in sight but in the last theorem. -/
import Derived.Test.YtalpehfjjidfhaaDoorGramD
import Derived.Test.YtalpehfjjidfhaaDoorMDx3
namespace Go.Proofs.YtalpehfjjidfhaaDoor.MD
open Go Go.RowKit Sv Hand
open Go.Proofs.YtalpehfjjidfhaaDoor.MA (tl validPre smallPre)
set_option linter.unusedVariables false
theorem good_u {s : S29} (h : goodS s = true) : s.f3.size ≤ 65536 ∧ s.f4.size ≤ 65536 ∧ GoodU s.f3 := by
  unfold goodS at h
  simp only [Bool.and_eq_true, decide_eq_true_eq] at h
  refine ⟨h.1.1, h.1.2, ?_⟩
  have h2 := h.2
  unfold goodV at h2
  simp only [Bool.and_eq_true, Bool.or_eq_true] at h2
  rcases h2.1 with h3 | h3
  · left
    rw [ByteArray.toList_eq]
    exact List.isEmpty_iff.1 h3
  · exact Or.inr h3
theorem fits_f (a b c : Int) (u v : ByteArray) : laws_zzFits14.f a b c u v = some (decide (u.size ≤ 2147483647 ∧ v.size ≤ 2147483647)) := by
  unfold laws_zzFits14.f
  by_cases h : (u.size : Int) > 2147483647
  · rw [if_pos h, decide_eq_false (by omega)]
  · rw [if_neg h]
    by_cases h2 : (v.size : Int) > 2147483647
    · rw [if_pos h2, decide_eq_false (by omega)]
    · rw [if_neg h2, decide_eq_true (by omega)]
theorem j0_true (k : Nat) (a0_0 a0_1 a0_2 : Int) (a0_3 a0_4 : ByteArray) (a1_0 a1_1 a1_2 : Int) (a1_3 a1_4 : ByteArray) (b : Bool) (hb : b = true) : laws_FnSemverLeastCompares.j0 (k + 1) b a0_0 a0_1 a0_2 a0_3 a0_4 a1_0 a1_1 a1_2 a1_3 a1_4 = some true := by
  subst hb; rfl
theorem cmp_refl (M m t : Int) (u : ByteArray) (h : GoodU u) : cmpVer M m t u M m t u = 0 :=
  (keyOrd.eq (M, m, t, u) (M, m, t, u) ⟨trivial, trivial, trivial, h⟩ ⟨trivial, trivial, trivial, h⟩).2 rfl
theorem fnSemverLeastCompares_pure (a0_0 a0_1 a0_2 : Int) (a0_3 a0_4 : ByteArray) (a1_0 a1_1 a1_2 : Int) (a1_3 a1_4 : ByteArray) : ∃ k, laws_FnSemverLeastCompares.f k a0_0 a0_1 a0_2 a0_3 a0_4 a1_0 a1_1 a1_2 a1_3 a1_4 = some true := by
  obtain ⟨n, hn⟩ : ∃ n : Nat, n = 200300 := ⟨_, rfl⟩
  refine ⟨n + 1, ?_⟩
  unfold laws_FnSemverLeastCompares.f
  rw [fits_f, fits_f, Option.bind_some, Option.bind_some]
  by_cases h0 : a0_3.size ≤ 2147483647 ∧ a0_4.size ≤ 2147483647
  · rw [decide_eq_true h0, if_pos rfl]
    by_cases h1 : a1_3.size ≤ 2147483647 ∧ a1_4.size ≤ 2147483647
    · rw [decide_eq_true h1]
      rw [laws_FnSemverLeastCompares.j0, if_neg (by decide), svGood_f _ (by simp) _ (by omega), Option.bind_some]
      by_cases hg : ([⟨a0_0, a0_1, a0_2, a0_3, a0_4⟩, ⟨a1_0, a1_1, a1_2, a1_3, a1_4⟩] : List S29).all goodS = true
      · rw [if_pos hg]
        simp only [List.all_cons, List.all_nil, Bool.and_true, Bool.and_eq_true] at hg
        obtain ⟨p1, p2, p3⟩ := good_u hg.1
        obtain ⟨q1, q2, q3⟩ := good_u hg.2
        simp only at p1 p2 p3 q1 q2 q3
        have sT : ∀ (M m t : Int) (u v : ByteArray), stTerm.f 0 M m t u v 3 = some (0, 3, M, m, t, u) := fun _ _ _ _ _ => rfl
        simp only [sT, Option.bind_some]
        unfold LeastHolds.f VersionGreaterEqual.f
        rw [if_pos ⟨by omega, by omega, by omega⟩, if_pos ⟨by omega, by omega⟩]
        simp only [Option.bind_some, openB, Bool.true_or, Bool.true_and]
        rw [if_pos (by simp), if_pos ⟨by omega, by omega, by omega⟩, cmp_refl _ _ _ _ p3]
        rfl
      · rw [if_neg hg]
    · rw [decide_eq_false h1, j0_true _ _ _ _ _ _ _ _ _ _ _ (!false) rfl]
  · rw [decide_eq_false h0, if_neg (by decide), j0_true _ _ _ _ _ _ _ _ _ _ _ _ rfl]
theorem leastCompares_walk (a0_0 a0_1 a0_2 : Int) (a0_3 a0_4 : ByteArray) (a1_0 a1_1 a1_2 : Int) (a1_3 a1_4 : ByteArray) (w : World) (hG0 : Hand.Gl w)
    (w0_0 : (Lit.int .u64 a0_0).wf = true) (w0_1 : (Lit.int .u64 a0_1).wf = true) (w0_2 : (Lit.int .u64 a0_2).wf = true) (w0_3 : a0_3.size ≤ maxLen) (w0_4 : a0_4.size ≤ maxLen) (w1_0 : (Lit.int .u64 a1_0).wf = true) (w1_1 : (Lit.int .u64 a1_1).wf = true) (w1_2 : (Lit.int .u64 a1_2).wf = true) (w1_3 : a1_3.size ≤ maxLen) (w1_4 : a1_4.size ≤ maxLen) :
    Calls Tryd.prog 10 #[.agg #[.int .u64 a0_0, .int .u64 a0_1, .int .u64 a0_2, .string a0_3, .string a0_4], .agg #[.int .u64 a1_0, .int .u64 a1_1, .int .u64 a1_2, .string a1_3, .string a1_4]] w fun e w' => e = .returned (.bool true) ∧ Below w.heap.size w w' := by
  obtain ⟨k, h⟩ := fnSemverLeastCompares_pure a0_0 a0_1 a0_2 a0_3 a0_4 a1_0 a1_1 a1_2 a1_3 a1_4
  exact laws_FnSemverLeastCompares.calls k a0_0 a0_1 a0_2 a0_3 a0_4 a1_0 a1_1 a1_2 a1_3 a1_4 true w hG0 h
end Go.Proofs.YtalpehfjjidfhaaDoor.MD
