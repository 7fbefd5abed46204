/- The plain law of FnSemverTermDown, and what the law's function answers. -/
import Derived.Test.YtalpehfjjidfhaaDoorSpecG
import Derived.Test.YtalpehfjjidfhaaDoorMGx5
namespace Go.Proofs.YtalpehfjjidfhaaDoor.MG
open Go Go.RowKit Sv Hand
open Go.Proofs.YtalpehfjjidfhaaDoorW.PrintWords
open Go.Proofs.YtalpehfjjidfhaaDoor.MA (tl validPre smallPre)
set_option linter.unusedVariables false
set_option linter.unusedSimpArgs false
theorem good2 (k : Nat) (hk : 200200 < k) (a b : S29) : laws_svGood.f k [a, b] = some (goodS a && goodS b) := by
  rw [svGood_f _ (by simp) _ hk]; simp
theorem le_nums {aM am at_ : Int} {au : ByteArray} {bM bm bt : Int} {bu : ByteArray} (h : cmpVer aM am at_ au bM bm bt bu ≤ 0) : aM ≤ bM ∧ (aM = bM → am ≤ bm) := by
  unfold cmpVer seg at h
  repeat' split at h
  all_goals omega
theorem cmp_trans {aM am at_ : Int} {au : ByteArray} {bM bm bt : Int} {bu : ByteArray} {cM cm ct : Int} {cu : ByteArray} (ga : GoodU au) (gb : GoodU bu) (gc : GoodU cu)
    (h1 : cmpVer aM am at_ au bM bm bt bu ≤ 0) (h2 : cmpVer bM bm bt bu cM cm ct cu ≤ 0) : cmpVer aM am at_ au cM cm ct cu ≤ 0 :=
  keyOrd.trans (aM, am, at_, au) (bM, bm, bt, bu) (cM, cm, ct, cu) ⟨trivial, trivial, trivial, ga⟩ ⟨trivial, trivial, trivial, gb⟩ ⟨trivial, trivial, trivial, gc⟩ h1 h2
theorem cmp_lt_trans {aM am at_ : Int} {au : ByteArray} {bM bm bt : Int} {bu : ByteArray} {cM cm ct : Int} {cu : ByteArray} (ga : GoodU au) (gb : GoodU bu) (gc : GoodU cu)
    (h1 : cmpVer aM am at_ au bM bm bt bu ≤ 0) (h2 : cmpVer bM bm bt bu cM cm ct cu < 0) : cmpVer aM am at_ au cM cm ct cu < 0 :=
  keyOrd.lt (aM, am, at_, au) (bM, bm, bt, bu) (cM, cm, ct, cu) ⟨trivial, trivial, trivial, ga⟩ ⟨trivial, trivial, trivial, gb⟩ ⟨trivial, trivial, trivial, gc⟩ h1 (Int.le_of_lt h2) (Or.inr h2)
theorem cmp_refl (M m t : Int) (u : ByteArray) (h : GoodU u) : cmpVer M m t u M m t u = 0 :=
  (keyOrd.eq (M, m, t, u) (M, m, t, u) ⟨trivial, trivial, trivial, h⟩ ⟨trivial, trivial, trivial, h⟩).2 rfl
theorem most_down {aM am at_ : Int} {au : ByteArray} {bM bm bt : Int} {bu : ByteArray} {M m t : Int} {u : ByteArray} {d md : Bool} (ga : GoodU au) (gb : GoodU bu) (gu : GoodU u)
    (h1 : cmpVer aM am at_ au bM bm bt bu ≤ 0) (h2 : mostB (cmpVer bM bm bt bu M m t u) bM bm M m d md = true) : mostB (cmpVer aM am at_ au M m t u) aM am M m d md = true := by
  have hn := le_nums h1
  unfold mostB at *
  cases d
  · simp only [Bool.not_false, if_true, decide_eq_true_eq] at *
    exact cmp_trans ga gb gu h1 h2
  · simp only [Bool.not_true, Bool.false_eq_true, if_false] at *
    by_cases c1 : M < bM
    · simp [c1] at h2
    · have c2 : ¬ M < aM := by omega
      simp only [c1, c2, decide_false, Bool.false_eq_true, if_false] at h2 ⊢
      cases md
      · simp only [Bool.not_false, Bool.and_true, Bool.not_eq_true', Bool.and_eq_false_iff, beq_eq_false_iff_ne, decide_eq_false_iff_not] at h2 ⊢
        by_cases e : aM = M
        · right
          have : bM = M := by omega
          rcases h2 with h2 | h2
          · exact absurd this h2
          · have := hn.2 (by omega); omega
        · exact Or.inl e
      · simp
theorem most_self (M m t : Int) (u : ByteArray) (h : GoodU u) (d md : Bool) : mostB (cmpVer M m t u M m t u) M m M m d md = true := by
  rw [cmp_refl _ _ _ _ h]
  unfold mostB
  cases d <;> simp
theorem j1_true (k : Nat) (y : Bool) (op g M m t : Int) (u : ByteArray) (a b c : Int) (d e : ByteArray) (a' b' c' : Int) (d' e' : ByteArray) (hy : y = true) : laws_FnSemverTermDown.j1 (k + 1) y op g M m t u a b c d e a' b' c' d' e' = some true := by
  subst hy; rfl
theorem j0_true (k : Nat) (y : Bool) (op g M m t : Int) (u : ByteArray) (a b c : Int) (d e : ByteArray) (a' b' c' : Int) (d' e' : ByteArray) (hy : y = true) : laws_FnSemverTermDown.j0 (k + 1) y op g M m t u a b c d e a' b' c' d' e' = some true := by
  subst hy; rfl
theorem down3 (g M m t : Int) (u : ByteArray) (a b c : Int) (d e : ByteArray) (hg : 0 ≤ g) (hu : u.size ≤ 2147483647) (hd : d.size ≤ 2147483647) : TermDown.f 3 g M m t u a b c d e true = some (decide (cmpVer a b c d M m t u < 0)) := by
  unfold TermDown.f
  rw [if_pos ⟨hg, by omega, by omega⟩, if_pos rfl]
  simp [openB]
theorem down5 (g M m t : Int) (u : ByteArray) (a b c : Int) (d e : ByteArray) (hg : 0 ≤ g) (hu : u.size ≤ 2147483647) (hd : d.size ≤ 2147483647) : TermDown.f 5 g M m t u a b c d e true = some (mostB (cmpVer a b c d M m t u) a b M m (decide (g < 3)) (g == 1)) := by
  unfold TermDown.f
  rw [if_pos ⟨hg, by omega, by omega⟩, if_neg (by decide), if_pos rfl]
  simp [openB]
theorem j1_false (k : Nat) (op g M m t : Int) (u : ByteArray) (a b c : Int) (d e : ByteArray) (a' b' c' : Int) (d' e' : ByteArray) (hop : op = 3 ∨ op = 5) (hg : 0 ≤ g) (hu : u.size ≤ 2147483647) (hd : d.size ≤ 65536) (hd' : d'.size ≤ 65536) (gu : GoodU u) (gd : GoodU d) (gd' : GoodU d') (hle : cmpVer a b c d a' b' c' d' ≤ 0) :
    laws_FnSemverTermDown.j1 (k + 1) false op g M m t u a b c d e a' b' c' d' e' = some true := by
  rw [laws_FnSemverTermDown.j1, if_neg (by decide)]
  unfold spec_Least.f
  rcases hop with rfl | rfl
  · have e1 := down3 g M m t u a' b' c' d' e' hg hu (by omega)
    have e2 := down3 g M m t u a b c d e hg hu (by omega)
    have e3 := down3 g M m t u M m t u ⟨#[]⟩ hg hu hu
    rw [cmp_refl M m t u gu] at e3
    simp only [Option.bind_some, e1, e2, e3]
    by_cases h1 : cmpVer a' b' c' d' M m t u < 0
    · rw [decide_eq_true h1, if_pos rfl, decide_eq_true (cmp_lt_trans gd gd' gu hle h1), if_pos rfl]; rfl
    · rw [decide_eq_false h1, if_neg (by decide)]; rfl
  · have e1 := down5 g M m t u a' b' c' d' e' hg hu (by omega)
    have e2 := down5 g M m t u a b c d e hg hu (by omega)
    have e3 := down5 g M m t u M m t u ⟨#[]⟩ hg hu hu
    rw [most_self M m t u gu] at e3
    simp only [Option.bind_some, e1, e2, e3]
    cases h1 : mostB (cmpVer a' b' c' d' M m t u) a' b' M m (decide (g < 3)) (g == 1)
    · rw [if_neg (by decide)]; rfl
    · rw [if_pos rfl, most_down gd gd' gu hle h1, if_pos rfl]; rfl
theorem termDown_pure (op g M m t : Int) (u : ByteArray) (a b c : Int) (d e : ByteArray) (a' b' c' : Int) (d' e' : ByteArray) : ∃ k, laws_FnSemverTermDown.f k op g M m t u a b c d e a' b' c' d' e' = some true := by
  obtain ⟨n, hn⟩ : ∃ n : Nat, n = 20000000010 := ⟨_, rfl⟩
  refine ⟨n + 2, ?_⟩
  unfold laws_FnSemverTermDown.f
  rw [fits13_f, fits_f, fits_f]
  simp only [Option.bind_some]
  by_cases h0 : u.size ≤ 2147483647
  · rw [decide_eq_true h0, if_pos rfl]
    by_cases h1 : d.size ≤ 2147483647 ∧ e.size ≤ 2147483647
    · rw [decide_eq_true h1, if_pos rfl]
      by_cases h2 : d'.size ≤ 2147483647 ∧ e'.size ≤ 2147483647
      · rw [decide_eq_true h2, laws_FnSemverTermDown.j0, if_neg (by decide)]
        obtain ⟨bb, hb, q⟩ := GoodTerm_f (n + 1) op g M m t u h0 (by omega)
        rw [hb, Option.bind_some]
        cases bb
        · rw [if_neg (by decide), j1_true _ _ _ _ _ _ _ _ _ _ _ _ _ _ _ _ _ _ rfl]
        · obtain ⟨_, _, _, _, q1, _, _, _, _, q2⟩ := q rfl
          rw [if_pos rfl, good2 _ (by omega), Option.bind_some]
          have go : (op = 3 ∨ op = 5) → (if (goodS ⟨a, b, c, d, e⟩ && goodS ⟨a', b', c', d', e'⟩) = true then (spec_Compare.f (n + 1) a b c d e a' b' c' d' e').bind fun x => laws_FnSemverTermDown.j1 (n + 1) (decide (x > 0)) op g M m t u a b c d e a' b' c' d' e' else laws_FnSemverTermDown.j1 (n + 1) true op g M m t u a b c d e a' b' c' d' e') = some true := by
            intro hop
            by_cases hg : (goodS ⟨a, b, c, d, e⟩ && goodS ⟨a', b', c', d', e'⟩) = true
            · rw [if_pos hg]
              simp only [Bool.and_eq_true] at hg
              obtain ⟨p1, p2, p3⟩ := good_u hg.1
              obtain ⟨r1, r2, r3⟩ := good_u hg.2
              simp only at p1 p3 r1 r3
              rw [Compare_f a b c d e a' b' c' d' e' h1.1 h2.1 p3 r3 _ (by omega), Option.bind_some]
              by_cases hc : cmpVer a b c d a' b' c' d' > 0
              · rw [decide_eq_true hc, j1_true _ _ _ _ _ _ _ _ _ _ _ _ _ _ _ _ _ _ rfl]
              · rw [decide_eq_false hc]
                exact j1_false n op g M m t u a b c d e a' b' c' d' e' hop q1 h0 p1 r1 q2 p3 r3 (by omega)
            · rw [if_neg hg, j1_true _ _ _ _ _ _ _ _ _ _ _ _ _ _ _ _ _ _ rfl]
          by_cases o3 : op = 3
          · rw [if_pos o3]; exact go (Or.inl o3)
          · rw [if_neg o3]
            by_cases o5 : op = 5
            · rw [if_pos o5]; exact go (Or.inr o5)
            · rw [if_neg o5, j1_true _ _ _ _ _ _ _ _ _ _ _ _ _ _ _ _ _ _ rfl]
      · rw [decide_eq_false h2, j0_true _ (!false) _ _ _ _ _ _ _ _ _ _ _ _ _ _ _ _ rfl]
    · rw [decide_eq_false h1, if_neg (by decide), j0_true _ _ _ _ _ _ _ _ _ _ _ _ _ _ _ _ _ _ rfl]
  · rw [decide_eq_false h0, if_neg (by decide), j0_true _ _ _ _ _ _ _ _ _ _ _ _ _ _ _ _ _ _ rfl]
theorem termDown_walk (a0_0 a0_1 a0_2 a0_3 a0_4 : Int) (a0_5 : ByteArray) (a1_0 a1_1 a1_2 : Int) (a1_3 a1_4 : ByteArray) (a2_0 a2_1 a2_2 : Int) (a2_3 a2_4 : ByteArray) (w : World) (hG0 : Hand.Gl w)
    (w0_0 : (Lit.int .i64 a0_0).wf = true) (w0_1 : (Lit.int .i64 a0_1).wf = true) (w0_2 : (Lit.int .u64 a0_2).wf = true) (w0_3 : (Lit.int .u64 a0_3).wf = true) (w0_4 : (Lit.int .u64 a0_4).wf = true) (w0_5 : a0_5.size ≤ maxLen)
    (w1_0 : (Lit.int .u64 a1_0).wf = true) (w1_1 : (Lit.int .u64 a1_1).wf = true) (w1_2 : (Lit.int .u64 a1_2).wf = true) (w1_3 : a1_3.size ≤ maxLen) (w1_4 : a1_4.size ≤ maxLen)
    (w2_0 : (Lit.int .u64 a2_0).wf = true) (w2_1 : (Lit.int .u64 a2_1).wf = true) (w2_2 : (Lit.int .u64 a2_2).wf = true) (w2_3 : a2_3.size ≤ maxLen) (w2_4 : a2_4.size ≤ maxLen) :
    Calls Tryd.prog 16 #[.agg #[.int .i64 a0_0, .int .i64 a0_1, .int .u64 a0_2, .int .u64 a0_3, .int .u64 a0_4, .string a0_5], .agg #[.int .u64 a1_0, .int .u64 a1_1, .int .u64 a1_2, .string a1_3, .string a1_4], .agg #[.int .u64 a2_0, .int .u64 a2_1, .int .u64 a2_2, .string a2_3, .string a2_4]] w fun e w' => e = .returned (.bool true) ∧ Below w.heap.size w w' := by
  obtain ⟨k, h⟩ := termDown_pure a0_0 a0_1 a0_2 a0_3 a0_4 a0_5 a1_0 a1_1 a1_2 a1_3 a1_4 a2_0 a2_1 a2_2 a2_3 a2_4
  exact laws_FnSemverTermDown.calls k a0_0 a0_1 a0_2 a0_3 a0_4 a0_5 a1_0 a1_1 a1_2 a1_3 a1_4 a2_0 a2_1 a2_2 a2_3 a2_4 true w hG0 h
end Go.Proofs.YtalpehfjjidfhaaDoor.MG
