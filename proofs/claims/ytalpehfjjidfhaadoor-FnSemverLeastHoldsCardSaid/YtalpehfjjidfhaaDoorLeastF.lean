/- The plain law of FnSemverLeastHolds, and what the law's function answers. -/
import Derived.Test.YtalpehfjjidfhaaDoorSpecF
import Derived.Test.YtalpehfjjidfhaaDoorMFx8
namespace Go.Proofs.YtalpehfjjidfhaaDoor.MF
open Go Go.RowKit Sv Hand
open Go.Proofs.YtalpehfjjidfhaaDoorW.PrintWords
open Go.Proofs.YtalpehfjjidfhaaDoor.MA (tl validPre smallPre)
set_option linter.unusedVariables false
theorem Spoken_4 (k : Nat) (g M m t : Int) (u : ByteArray) (vM vm vt : Int) (vu vv : ByteArray) : spec_Spoken.f (k + 1) 4 g M m t u vM vm vt vu vv = some true := by
  unfold spec_Spoken.f
  simp only [spec_Spoken.j0]
  repeat' split
  all_goals first | rfl | omega
theorem asked_4 (k : Nat) (hk : 20000000002 < k) (op g M m t : Int) (u : ByteArray) (vM vm vt : Int) (vu vv : ByteArray) (hu : u.size ≤ 2147483647) :
    ∃ b, laws_snAsked.f k op g M m t u 4 vM vm vt vu vv = some b ∧ (b = true → 0 ≤ g ∧ GoodU u ∧ vu.size ≤ 65536 ∧ GoodU vu) := by
  obtain ⟨j, rfl⟩ : ∃ j, k = j + 1 := ⟨k - 1, by omega⟩
  unfold laws_snAsked.f laws_snAs.f
  simp only [Option.bind_some]
  obtain ⟨b, hb, q⟩ := GoodTerm_f (j + 1) 4 g M m t u hu (by omega)
  rw [hb, good1 _ (by omega), Spoken_4]
  simp only [Option.bind_some]
  cases b
  · exact ⟨false, rfl, fun e => by cases e⟩
  · have q := q rfl
    cases hg : goodS ⟨vM, vm, vt, vu, vv⟩
    · exact ⟨false, rfl, fun e => by cases e⟩
    · obtain ⟨p1, p2, p3⟩ := good_u hg
      exact ⟨true, rfl, fun _ => ⟨q.2.2.2.2.1, q.2.2.2.2.2.2.2.2.2, p1, p3⟩⟩
theorem Compares_4 (k : Nat) (hk : 20000000002 < k) (g M m t : Int) (u : ByteArray) (vM vm vt : Int) (vu vv : ByteArray) (hu : u.size ≤ 2147483647) (hv : vu.size ≤ 2147483647) (gu : GoodU u) (gv : GoodU vu) :
    spec_Compares.f k 4 g M m t u vM vm vt vu vv = some (decide (cmpVer vM vm vt vu M m t u ≥ 0)) := by
  obtain ⟨j, rfl⟩ : ∃ j, k = j + 1 := ⟨k - 1, by omega⟩
  have J : ∀ x, spec_Compares.j0 (j + 1) x 4 g M m t u vM vm vt vu vv M m t u ⟨#[]⟩ = some (decide (cmpVer vM vm vt vu M m t u ≥ 0)) := by
    intro x
    rw [spec_Compares.j0, if_neg (by decide), if_neg (by decide), if_neg (by decide), if_neg (by decide), if_pos rfl, Compare_f vM vm vt vu vv M m t u ⟨#[]⟩ hv hu gv gu j (by omega)]
    rfl
  unfold spec_Compares.f spec_Least.f CompareNumbers.f
  simp only [Option.bind_some]
  by_cases h : g = 3
  · rw [if_pos h, Compare_f vM vm vt vu vv M m t u ⟨#[]⟩ hv hu gv gu (j + 1) (by omega), Option.bind_some, J]
  · rw [if_neg h, J]
theorem j0_true (k : Nat) (x : Bool) (a b c d e : Int) (f : ByteArray) (a' b' c' : Int) (d' e' : ByteArray) (y : Bool) (hy : y = true) : laws_FnSemverLeastHolds.j0 (k + 1) x y a b c d e f a' b' c' d' e' = some true := by
  subst hy; rfl
theorem leastHolds_pure (op g M m t : Int) (u : ByteArray) (vM vm vt : Int) (vu vv : ByteArray) (pre : Bool) : ∃ k, laws_FnSemverLeastHolds.f k op g M m t u vM vm vt vu vv pre = some true := by
  obtain ⟨n, hn⟩ : ∃ n : Nat, n = 20000000010 := ⟨_, rfl⟩
  refine ⟨n + 1, ?_⟩
  unfold laws_FnSemverLeastHolds.f
  rw [fits13_f, fits_f, Option.bind_some, Option.bind_some]
  by_cases h0 : u.size ≤ 2147483647
  · rw [decide_eq_true h0, if_pos rfl]
    by_cases h1 : vu.size ≤ 2147483647 ∧ vv.size ≤ 2147483647
    · rw [decide_eq_true h1, laws_FnSemverLeastHolds.j0, if_neg (by decide)]
      obtain ⟨b, hb, q⟩ := asked_4 n (by omega) op g M m t u vM vm vt vu vv h0
      rw [hb, Option.bind_some]
      cases b
      · rw [if_neg (by decide)]
      · obtain ⟨q1, q2, q3, q4⟩ := q rfl
        rw [if_pos rfl]
        unfold LeastHolds.f laws_snWant.f laws_snAs.f
        rw [if_pos ⟨q1, by omega, by omega⟩]
        simp only [Option.bind_some]
        rw [Compares_4 n (by omega) g M m t u vM vm vt vu vv h0 h1.1 q2 q4]
        simp only [Option.bind_some]
        cases pre
        · rw [if_neg (by decide)]
          by_cases e : vu.toList = []
          · rw [if_pos e]; simp [openB, e]
          · rw [if_neg e]; simp [openB, e]
        · rw [if_pos rfl]; simp [openB]
    · rw [decide_eq_false h1, j0_true _ _ _ _ _ _ _ _ _ _ _ _ _ (!false) rfl]
  · rw [decide_eq_false h0, if_neg (by decide), j0_true _ _ _ _ _ _ _ _ _ _ _ _ _ _ rfl]
theorem leastHolds_walk (a0_0 a0_1 a0_2 a0_3 a0_4 : Int) (a0_5 : ByteArray) (a1_0 a1_1 a1_2 : Int) (a1_3 a1_4 : ByteArray) (a2 : Bool) (w : World) (hG0 : Hand.Gl w)
    (w0_0 : (Lit.int .i64 a0_0).wf = true) (w0_1 : (Lit.int .i64 a0_1).wf = true) (w0_2 : (Lit.int .u64 a0_2).wf = true) (w0_3 : (Lit.int .u64 a0_3).wf = true) (w0_4 : (Lit.int .u64 a0_4).wf = true) (w0_5 : a0_5.size ≤ maxLen)
    (w1_0 : (Lit.int .u64 a1_0).wf = true) (w1_1 : (Lit.int .u64 a1_1).wf = true) (w1_2 : (Lit.int .u64 a1_2).wf = true) (w1_3 : a1_3.size ≤ maxLen) (w1_4 : a1_4.size ≤ maxLen) :
    Calls Tryd.prog 9 #[.agg #[.int .i64 a0_0, .int .i64 a0_1, .int .u64 a0_2, .int .u64 a0_3, .int .u64 a0_4, .string a0_5], .agg #[.int .u64 a1_0, .int .u64 a1_1, .int .u64 a1_2, .string a1_3, .string a1_4], .bool a2] w fun e w' => e = .returned (.bool true) ∧ Below w.heap.size w w' := by
  obtain ⟨k, h⟩ := leastHolds_pure a0_0 a0_1 a0_2 a0_3 a0_4 a0_5 a1_0 a1_1 a1_2 a1_3 a1_4 a2
  exact laws_FnSemverLeastHolds.calls k a0_0 a0_1 a0_2 a0_3 a0_4 a0_5 a1_0 a1_1 a1_2 a1_3 a1_4 a2 true w hG0 h
end Go.Proofs.YtalpehfjjidfhaaDoor.MF
