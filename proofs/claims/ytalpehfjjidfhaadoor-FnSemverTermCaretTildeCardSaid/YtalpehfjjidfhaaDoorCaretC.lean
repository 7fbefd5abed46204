/- The plain law of FnSemverTermCaretTilde, and what the law's function answers. -/
import Derived.Test.YtalpehfjjidfhaaDoorMCx3
namespace Go.Proofs.YtalpehfjjidfhaaDoor.MC
open Go Go.RowKit Sv Hand
open Go.Proofs.YtalpehfjjidfhaaDoorW.PrintWords
set_option linter.unusedVariables false
set_option linter.unusedSimpArgs false
theorem fits_f (a b c : Int) (u v : ByteArray) : laws_zzFits14.f a b c u v = some (decide (u.size ≤ 2147483647 ∧ v.size ≤ 2147483647)) := by
  unfold laws_zzFits14.f
  by_cases h : (u.size : Int) > 2147483647
  · rw [if_pos h, decide_eq_false (by omega)]
  · rw [if_neg h]
    by_cases h2 : (v.size : Int) > 2147483647
    · rw [if_pos h2, decide_eq_false (by omega)]
    · rw [if_neg h2, decide_eq_true (by omega)]
abbrev E : ByteArray := ⟨#[]⟩
theorem e0 : E.toList = [] := by rw [ByteArray.toList_eq]
theorem Good_E (k : Nat) (M m t : Int) : spec_Good.f k M m t E E = some true := by
  unfold spec_Good.f
  simp [e0]
theorem Plain_E (k : Nat) (M m t : Int) : spec_Plain.f k M m t E E = some (decide (M < 18446744073709551615 ∧ m < 18446744073709551615 ∧ t < 18446744073709551615)) := by
  unfold spec_Plain.f
  rw [Good_E]
  simp only [Option.bind_some, if_true]
  by_cases h1 : M < 18446744073709551615
  · by_cases h2 : m < 18446744073709551615
    · by_cases h3 : t < 18446744073709551615
      · rw [if_pos h1, if_pos h2, if_pos h3, if_pos e0, decide_eq_true ⟨h1, h2, h3⟩]
      · rw [if_pos h1, if_pos h2, if_neg h3, decide_eq_false (fun h => h3 h.2.2)]
    · rw [if_pos h1, if_neg h2, decide_eq_false (fun h => h2 h.2.1)]
  · rw [if_neg h1, decide_eq_false (fun h => h1 h.1)]
theorem stZero_f (M m t : Int) (u v : ByteArray) : laws_stZero.f M m t u v = some (decide (M = 0 ∧ m = 0 ∧ t = 0)) := by
  unfold laws_stZero.f CompareNumbers.f cnumI
  show some (cnum M m t 0 0 0 3 == 0) = _
  congr 1
  rw [Bool.eq_iff_iff, decide_eq_true_eq, beq_iff_eq]
  simp only [cnum]
  have s1 := @seg_none M 0
  have s2 := @seg_none m 0
  have s3 := @seg_none t 0
  split
  · rename_i h
    split
    · rename_i h2; rw [s3]; exact ⟨fun h3 => ⟨s1.1 h, s2.1 h2, h3⟩, fun h => h.2.2⟩
    · rename_i h2; exact ⟨fun h3 => absurd h3 h2, fun h => absurd (s2.2 h.2.1) h2⟩
  · rename_i h; exact ⟨fun h3 => absurd h3 h, fun h' => absurd (s1.2 h'.1) h⟩
theorem cmp_lt (a b c M m t : Int) : cmpVer a b c E M m t E < 0 ↔ (a < M ∨ (a = M ∧ (b < m ∨ (b = m ∧ c < t)))) := by
  unfold cmpVer preCmp seg
  simp only [e0, and_self, if_true]
  repeat' split
  all_goals omega
theorem cmp_eq (a b c M m t : Int) : cmpVer a b c E M m t E = 0 ↔ (a = M ∧ b = m ∧ c = t) := by
  unfold cmpVer preCmp seg
  simp only [e0, and_self, if_true]
  repeat' split
  all_goals omega
abbrev Caret (a b c M m t : Int) : Prop := ¬ (a < M ∨ (a = M ∧ (b < m ∨ (b = m ∧ c < t)))) ∧ ((0 < M ∧ a = M) ∨ (¬ 0 < M ∧ ¬ (M = 0 ∧ 0 < a) ∧ ((0 < m ∧ b = m) ∨ (¬ 0 < m ∧ ¬ (m = 0 ∧ 0 < b) ∧ t = c))))
theorem caret_iff (a b c M m t : Int) : caretB (cmpVer a b c E M m t E) a b c M m t false false = true ↔ Caret a b c M m t := by
  unfold caretB Caret
  rw [← cmp_lt]
  by_cases h0 : cmpVer a b c E M m t E < 0
  · simp [h0]
  · by_cases h1 : 0 < M
    · simp [h0, h1]
    · by_cases h2 : M = 0 ∧ 0 < a
      · simp [h0, h1, h2.1, h2.2]
      · have h2' : ((M == 0) && decide (0 < a)) = false := by
          rw [Bool.eq_false_iff]; intro h; simp only [Bool.and_eq_true, beq_iff_eq, decide_eq_true_eq] at h; exact h2 h
        by_cases h3 : 0 < m
        · simp [h0, h1, h2, h2', h3]
        · by_cases h4 : m = 0 ∧ 0 < b
          · simp [h0, h1, h2, h2', h4.1, h4.2]
          · have h4' : ((m == 0) && decide (0 < b)) = false := by
              rw [Bool.eq_false_iff]; intro h; simp only [Bool.and_eq_true, beq_iff_eq, decide_eq_true_eq] at h; exact h4 h
            simp [h0, h1, h2, h2', h3, h4, h4']
abbrev Tilde (a b c M m t : Int) : Prop := ¬ (a < M ∨ (a = M ∧ (b < m ∨ (b = m ∧ c < t)))) ∧ ((M = 0 ∧ m = 0 ∧ t = 0) ∨ (a = M ∧ b = m))
theorem tilde_iff (a b c M m t : Int) : tildeB (cmpVer a b c E M m t E) a b M m t false false = true ↔ Tilde a b c M m t := by
  unfold tildeB Tilde
  rw [← cmp_lt]
  simp [and_assoc]
theorem holds7 (M m t : Int) (a b c : Int) : laws_stHolds.f 7 M m t E E 3 a b c E E = some (decide (Caret a b c M m t)) := by
  unfold laws_stHolds.f stTerm.f TermHolds.f
  rw [if_pos (by decide), if_pos (by decide)]
  simp only [Option.bind_some]
  rw [if_pos ⟨by decide, by decide, by decide⟩, if_neg (by decide), if_neg (by decide), if_pos trivial]
  simp only [Option.bind_some]
  congr 1
  rw [Bool.eq_iff_iff, decide_eq_true_eq, ← caret_iff]
  rfl
theorem holds6 (M m t : Int) (a b c : Int) : laws_stHolds.f 6 M m t E E 3 a b c E E = some (decide (Tilde a b c M m t)) := by
  unfold laws_stHolds.f stTerm.f TermHolds.f
  rw [if_pos (by decide), if_pos (by decide)]
  simp only [Option.bind_some]
  rw [if_pos ⟨by decide, by decide, by decide⟩, if_neg (by decide), if_pos trivial]
  simp only [Option.bind_some]
  congr 1
  rw [Bool.eq_iff_iff, decide_eq_true_eq, ← tilde_iff]
  rfl
theorem holds0 (M m t : Int) (a b c : Int) : laws_stHolds.f 0 M m t E E 3 a b c E E = some (decide (a = M ∧ b = m ∧ c = t)) := by
  unfold laws_stHolds.f stTerm.f TermHolds.f
  rw [if_pos (by decide), if_pos (by decide)]
  simp only [Option.bind_some]
  rw [if_pos ⟨by decide, by decide, by decide⟩, if_pos trivial]
  simp only [Option.bind_some]
  congr 1
  rw [Bool.eq_iff_iff, decide_eq_true_eq, ← cmp_eq]
  simp [openB, equalB]
theorem self7 (M m t : Int) (hM : 0 ≤ M) (hm : 0 ≤ m) (ht : 0 ≤ t) : Caret M m t M m t := by
  unfold Caret
  refine ⟨by omega, ?_⟩
  by_cases h : 0 < M
  · exact Or.inl ⟨h, rfl⟩
  · refine Or.inr ⟨h, by omega, ?_⟩
    by_cases h2 : 0 < m
    · exact Or.inl ⟨h2, rfl⟩
    · exact Or.inr ⟨h2, by omega, rfl⟩
theorem j0_true (k : Nat) (y : Bool) (a b c : Int) (d e : ByteArray) (a' b' c' : Int) (d' e' : ByteArray) (hy : y = true) : laws_FnSemverTermCaretTilde.j0 (k + 1) y a b c d e a' b' c' d' e' = some true := by
  subst hy; rfl
theorem j1_true (k : Nat) (y : Bool) (a b c : Int) (d e : ByteArray) (a' b' c' : Int) (d' e' : ByteArray) (hy : y = true) : laws_FnSemverTermCaretTilde.j1 (k + 1) y a b c d e a' b' c' d' e' = some true := by
  subst hy; rfl
theorem dec_eq {p q : Prop} [Decidable p] [Decidable q] (h : p ↔ q) : (decide p == decide q) = true := by
  rw [beq_iff_eq, Bool.eq_iff_iff, decide_eq_true_eq, decide_eq_true_eq]; exact h
theorem caretTilde_pure (M m t : Int) (u v : ByteArray) (a b c : Int) (u' v' : ByteArray) (hM : 0 ≤ M) (hm : 0 ≤ m) (ht : 0 ≤ t) (ha : 0 ≤ a) (hb : 0 ≤ b) (hc : 0 ≤ c) : ∃ k, laws_FnSemverTermCaretTilde.f k M m t u v a b c u' v' = some true := by
  refine ⟨0 + 2, ?_⟩
  unfold laws_FnSemverTermCaretTilde.f
  rw [fits_f, fits_f, Option.bind_some, Option.bind_some]
  by_cases h0 : u.size ≤ 2147483647 ∧ v.size ≤ 2147483647
  · rw [decide_eq_true h0, if_pos rfl]
    by_cases h1 : u'.size ≤ 2147483647 ∧ v'.size ≤ 2147483647
    · rw [decide_eq_true h1, laws_FnSemverTermCaretTilde.j0, if_neg (by decide)]
      unfold spec_Bare.f
      simp only [Option.bind_some]
      rw [Plain_E, Option.bind_some]
      by_cases hp : M < 18446744073709551615 ∧ m < 18446744073709551615 ∧ t < 18446744073709551615
      · rw [decide_eq_true hp, if_pos rfl, stZero_f, Option.bind_some]
        by_cases hz : M = 0 ∧ m = 0 ∧ t = 0
        · rw [decide_eq_true hz, j1_true _ _ _ _ _ _ _ _ _ _ _ _ rfl]
        · rw [decide_eq_false hz, laws_FnSemverTermCaretTilde.j1, if_neg (by decide), holds7, holds6, holds0, holds7 M m t M m t, decide_eq_true (self7 M m t hM hm ht)]
          simp only [Option.bind_some, spec_IncMinor.f]
          by_cases c1 : M > 0
          · rw [if_pos c1]
            by_cases c2 : Tilde a b c M m t
            · rw [decide_eq_true c2, if_pos rfl, if_pos]
              have : Caret a b c M m t := ⟨c2.1, Or.inl ⟨c1, by have := c2.2; omega⟩⟩
              rw [decide_eq_true this]; rfl
            · rw [decide_eq_false c2, if_neg (by decide), IntWalk.u64_in _ ⟨by omega, by omega⟩, holds7, Option.bind_some, if_pos]
              refine dec_eq ?_
              unfold Tilde at c2
              unfold Caret
              constructor
              · rintro ⟨q1, q2⟩
                have e : a = M := by rcases q2 with q2 | q2 <;> omega
                exact ⟨by omega, Or.inl ⟨c1, e⟩⟩
              · rintro ⟨q1, q2⟩
                have e : a = M := by rcases q2 with q2 | q2 <;> omega
                exact ⟨by omega, Or.inl ⟨c1, e⟩⟩
          · rw [if_neg c1]
            by_cases c2 : m > 0
            · rw [if_pos c2, if_pos]
              refine dec_eq ?_
              unfold Tilde Caret
              constructor
              · rintro ⟨q1, q2⟩
                refine ⟨q1, Or.inr ?_⟩
                rcases q2 with q2 | ⟨_, q3, q4 | q4⟩ <;> omega
              · rintro ⟨q1, q2⟩
                refine ⟨q1, Or.inr ⟨by omega, by omega, Or.inl ⟨c2, by omega⟩⟩⟩
            · rw [if_neg c2, if_pos]
              refine dec_eq ?_
              unfold Caret
              constructor
              · rintro ⟨q1, q2⟩
                rcases q2 with q2 | ⟨_, q3, q4 | q4⟩ <;> omega
              · rintro ⟨q1, q2, q3⟩
                exact ⟨by omega, Or.inr ⟨by omega, by omega, Or.inr ⟨by omega, by omega, by omega⟩⟩⟩
      · rw [decide_eq_false hp, if_neg (by decide), j1_true _ _ _ _ _ _ _ _ _ _ _ _ rfl]
    · rw [decide_eq_false h1, j0_true _ (!false) _ _ _ _ _ _ _ _ _ _ rfl]
  · rw [decide_eq_false h0, if_neg (by decide), j0_true _ _ _ _ _ _ _ _ _ _ _ _ rfl]
theorem wf_nonneg {x : Int} (h : (Lit.int .u64 x).wf = true) : 0 ≤ x := by
  unfold Lit.wf at h
  simp only [Bool.and_eq_true, decide_eq_true_eq] at h
  exact h.1
theorem caretTilde_walk (a0_0 a0_1 a0_2 : Int) (a0_3 a0_4 : ByteArray) (a1_0 a1_1 a1_2 : Int) (a1_3 a1_4 : ByteArray) (w : World) (hG0 : Hand.Gl w)
    (w0_0 : (Lit.int .u64 a0_0).wf = true) (w0_1 : (Lit.int .u64 a0_1).wf = true) (w0_2 : (Lit.int .u64 a0_2).wf = true) (w0_3 : a0_3.size ≤ maxLen) (w0_4 : a0_4.size ≤ maxLen) (w1_0 : (Lit.int .u64 a1_0).wf = true) (w1_1 : (Lit.int .u64 a1_1).wf = true) (w1_2 : (Lit.int .u64 a1_2).wf = true) (w1_3 : a1_3.size ≤ maxLen) (w1_4 : a1_4.size ≤ maxLen) :
    Calls Tryd.prog 15 #[.agg #[.int .u64 a0_0, .int .u64 a0_1, .int .u64 a0_2, .string a0_3, .string a0_4], .agg #[.int .u64 a1_0, .int .u64 a1_1, .int .u64 a1_2, .string a1_3, .string a1_4]] w fun e w' => e = .returned (.bool true) ∧ Below w.heap.size w w' := by
  obtain ⟨k, h⟩ := caretTilde_pure a0_0 a0_1 a0_2 a0_3 a0_4 a1_0 a1_1 a1_2 a1_3 a1_4 (wf_nonneg w0_0) (wf_nonneg w0_1) (wf_nonneg w0_2) (wf_nonneg w1_0) (wf_nonneg w1_1) (wf_nonneg w1_2)
  exact laws_FnSemverTermCaretTilde.calls k a0_0 a0_1 a0_2 a0_3 a0_4 a1_0 a1_1 a1_2 a1_3 a1_4 true w hG0 h
end Go.Proofs.YtalpehfjjidfhaaDoor.MC
