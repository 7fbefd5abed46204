/- The plain law of FnSemverEqualWild, and what the law's function answers. -/
import Derived.Test.YtalpehfjjidfhaaDoorGramE
import Derived.Test.YtalpehfjjidfhaaDoorMEx3
namespace Go.Proofs.YtalpehfjjidfhaaDoor.ME
open Go Go.RowKit Sv Hand
open Go.Proofs.YtalpehfjjidfhaaDoorW.PrintWords
open Go.Proofs.YtalpehfjjidfhaaDoor.MA (tl validPre smallPre)
set_option linter.unusedVariables false
set_option linter.unusedSimpArgs false
theorem good_s {s : S29} (h : goodS s = true) : s.f3.size ≤ 65536 := by
  unfold goodS at h
  simp only [Bool.and_eq_true, decide_eq_true_eq] at h
  exact h.1.1
theorem fits_f (a b c : Int) (u v : ByteArray) : laws_zzFits14.f a b c u v = some (decide (u.size ≤ 2147483647 ∧ v.size ≤ 2147483647)) := by
  unfold laws_zzFits14.f
  by_cases h : (u.size : Int) > 2147483647
  · rw [if_pos h, decide_eq_false (by omega)]
  · rw [if_neg h]
    by_cases h2 : (v.size : Int) > 2147483647
    · rw [if_pos h2, decide_eq_false (by omega)]
    · rw [if_neg h2, decide_eq_true (by omega)]
theorem good1 (k : Nat) (hk : 200200 < k) (s : S29) : laws_svGood.f k [s] = some (goodS s) := by
  rw [svGood_f _ (by simp) _ hk]; simp
theorem seg_self (a : Int) : seg a a = 0 := seg_none.2 rfl
theorem cmp_self (M m t : Int) : cmpVer M m t ⟨#[]⟩ M m t ⟨#[]⟩ = 0 := by
  unfold cmpVer preCmp
  simp [seg_self]
theorem cmp_zero (M : Int) (h : 0 ≤ M) : ¬ cmpVer M 0 0 ⟨#[]⟩ 0 0 0 ⟨#[]⟩ < 0 := by
  by_cases e : M = 0
  · subst e; rw [cmp_self]; decide
  · unfold cmpVer
    have : seg M 0 = 1 := by unfold seg; rw [if_neg (by omega), if_pos (by omega)]
    simp [this]
theorem j1_true (k : Nat) (x : Int) (p : Bool) (y : Bool) (a b c : Int) (d e : ByteArray) (a' b' c' : Int) (d' e' : ByteArray) (hy : y = true) : laws_FnSemverEqualWild.j1 (k + 1) x p y a b c d e a' b' c' d' e' = some true := by
  subst hy; rfl
theorem j0_true (k : Nat) (x : Int) (p : Bool) (y : Bool) (a b c : Int) (d e : ByteArray) (a' b' c' : Int) (d' e' : ByteArray) (hy : y = true) : laws_FnSemverEqualWild.j0 (k + 1) x p y a b c d e a' b' c' d' e' = some true := by
  subst hy; rfl
theorem e0 : (⟨#[]⟩ : ByteArray).size = 0 := rfl
theorem j2_true (k : Nat) (x : Int) (pre : Bool) (M m t : Int) (u v : ByteArray) (vM vm vt : Int) (vu vv : ByteArray) (tM tm : Int) (hx : 0 ≤ x ∧ x ≤ 2) (hv : vu.size ≤ 65536) (h0 : x = 0 → tM = 0 ∧ tm = 0 ∧ 0 ≤ M) (h1 : x = 1 → tM = M ∧ tm = 0) (h2 : x = 2 → tM = M ∧ tm = m) :
    laws_FnSemverEqualWild.j2 (k + 1) x pre M m t u v vM vm vt vu vv 0 x tM tm 0 ⟨#[]⟩ = some true := by
  rw [laws_FnSemverEqualWild.j2]
  have hd : decide (x < 3) = true := decide_eq_true (by omega)
  unfold EqualHolds.f TildeHolds.f
  rw [if_pos ⟨hx.1, by omega, by rw [e0]; omega⟩, if_pos ⟨hx.1, by omega, by rw [e0]; omega⟩]
  simp only [Option.bind_some, equalB, hd, if_true, beq_self_eq_true]
  have sc : laws_scFirst.f M m t u v x = some (M, (if x < 2 then 0 else m), 0, ⟨#[]⟩, ⟨#[]⟩) := by
    unfold laws_scFirst.f
    rw [if_pos (by omega)]
    split <;> rfl
  rw [sc]
  simp only [Option.bind_some]
  rw [if_pos ⟨hx.1, by rw [e0]; omega, by rw [e0]; omega⟩]
  simp only [Option.bind_some]
  have op : openB pre ⟨#[]⟩ = true := by cases pre <;> simp [openB]
  rw [op, Bool.true_and]
  rcases (show x = 0 ∨ x = 1 ∨ x = 2 by omega) with rfl | rfl | rfl
  · obtain ⟨rfl, rfl, hM⟩ := h0 rfl
    rw [if_pos (by decide)]
    unfold tildeB
    simp [cmp_zero M hM]
  · obtain ⟨rfl, rfl⟩ := h1 rfl
    rw [if_pos (by decide), cmp_self]
    unfold tildeB
    simp
  · obtain ⟨rfl, rfl⟩ := h2 rfl
    rw [if_neg (by decide), cmp_self]
    unfold tildeB
    simp
theorem wild_pure (M m t : Int) (u v : ByteArray) (x : Int) (vM vm vt : Int) (vu vv : ByteArray) (pre : Bool) (hM : 0 ≤ M) : ∃ k, laws_FnSemverEqualWild.f k M m t u v x vM vm vt vu vv pre = some true := by
  obtain ⟨n, hn⟩ : ∃ n : Nat, n = 200300 := ⟨_, rfl⟩
  refine ⟨n + 3, ?_⟩
  unfold laws_FnSemverEqualWild.f
  rw [fits_f, fits_f, Option.bind_some, Option.bind_some]
  by_cases h0 : u.size ≤ 2147483647 ∧ v.size ≤ 2147483647
  · rw [decide_eq_true h0, if_pos rfl]
    by_cases h1 : vu.size ≤ 2147483647 ∧ vv.size ≤ 2147483647
    · rw [decide_eq_true h1, laws_FnSemverEqualWild.j0, if_neg (by decide)]
      by_cases c0 : x < 0
      · rw [if_pos c0, j1_true _ _ _ _ _ _ _ _ _ _ _ _ _ _ rfl]
      · rw [if_neg c0]
        by_cases c1 : x > 2
        · rw [if_pos c1, j1_true _ _ _ _ _ _ _ _ _ _ _ _ _ _ rfl]
        · rw [if_neg c1, good1 _ (by omega), Option.bind_some]
          cases hg : goodS ⟨vM, vm, vt, vu, vv⟩
          · rw [j1_true _ _ _ (!false) _ _ _ _ _ _ _ _ _ _ rfl]
          · have hv := good_s hg
            simp only at hv
            rw [laws_FnSemverEqualWild.j1, if_neg (by decide)]
            unfold stTerm.f
            rcases (show x = 0 ∨ x = 1 ∨ x = 2 by omega) with rfl | rfl | rfl
            · rw [if_neg (by decide)]
              simp only [Option.bind_some, if_true]
              exact j2_true n 0 pre M m t u v vM vm vt vu vv 0 0 (by omega) hv (fun _ => ⟨rfl, rfl, hM⟩) (by omega) (by omega)
            · rw [if_neg (by decide)]
              simp only [Option.bind_some]
              rw [if_neg (by decide)]
              exact j2_true n 1 pre M m t u v vM vm vt vu vv M 0 (by omega) hv (by omega) (fun _ => ⟨rfl, rfl⟩) (by omega)
            · rw [if_pos (by decide), if_neg (by decide)]
              simp only [Option.bind_some]
              rw [if_neg (by decide)]
              exact j2_true n 2 pre M m t u v vM vm vt vu vv M m (by omega) hv (by omega) (by omega) (fun _ => ⟨rfl, rfl⟩)
    · rw [decide_eq_false h1, j0_true _ _ _ (!false) _ _ _ _ _ _ _ _ _ _ rfl]
  · rw [decide_eq_false h0, if_neg (by decide), j0_true _ _ _ _ _ _ _ _ _ _ _ _ _ _ rfl]
theorem equalWild_walk (a0_0 a0_1 a0_2 : Int) (a0_3 a0_4 : ByteArray) (a1 : Int) (a2_0 a2_1 a2_2 : Int) (a2_3 a2_4 : ByteArray) (a3 : Bool) (w : World) (hG0 : Hand.Gl w)
    (w0_0 : (Lit.int .u64 a0_0).wf = true) (w0_1 : (Lit.int .u64 a0_1).wf = true) (w0_2 : (Lit.int .u64 a0_2).wf = true) (w0_3 : a0_3.size ≤ maxLen) (w0_4 : a0_4.size ≤ maxLen) (w1 : (Lit.int .i64 a1).wf = true)
    (w2_0 : (Lit.int .u64 a2_0).wf = true) (w2_1 : (Lit.int .u64 a2_1).wf = true) (w2_2 : (Lit.int .u64 a2_2).wf = true) (w2_3 : a2_3.size ≤ maxLen) (w2_4 : a2_4.size ≤ maxLen) :
    Calls Tryd.prog 13 #[.agg #[.int .u64 a0_0, .int .u64 a0_1, .int .u64 a0_2, .string a0_3, .string a0_4], .int .i64 a1, .agg #[.int .u64 a2_0, .int .u64 a2_1, .int .u64 a2_2, .string a2_3, .string a2_4], .bool a3] w fun e w' => e = .returned (.bool true) ∧ Below w.heap.size w w' := by
  have hM : 0 ≤ a0_0 := by
    unfold Lit.wf at w0_0
    simp only [Bool.and_eq_true, decide_eq_true_eq] at w0_0
    exact w0_0.1
  obtain ⟨k, h⟩ := wild_pure a0_0 a0_1 a0_2 a0_3 a0_4 a1 a2_0 a2_1 a2_2 a2_3 a2_4 a3 hM
  exact laws_FnSemverEqualWild.calls k a0_0 a0_1 a0_2 a0_3 a0_4 a1 a2_0 a2_1 a2_2 a2_3 a2_4 a3 true w hG0 h
end Go.Proofs.YtalpehfjjidfhaaDoor.ME
