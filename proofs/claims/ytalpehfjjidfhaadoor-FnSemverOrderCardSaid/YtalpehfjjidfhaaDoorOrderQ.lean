/- The plain law of FnSemverOrder, and what the law's function answers. -/
import Derived.Test.YtalpehfjjidfhaaDoorGramQ
import Derived.Test.YtalpehfjjidfhaaDoorMQx4
namespace Go.Proofs.YtalpehfjjidfhaaDoor.MQ
open Go Go.RowKit Sv Hand
open Go.Proofs.YtalpehfjjidfhaaDoorW.PrintWords
open Go.Proofs.YtalpehfjjidfhaaDoor.MA (tl validPre smallPre)
set_option linter.unusedVariables false
theorem good_u {s : S29} (h : goodS s = true) : s.f3.size ≤ 65536 ∧ s.f4.size ≤ 65536 ∧ GoodU s.f3 := by
  unfold goodS at h
  simp only [Bool.and_eq_true, decide_eq_true_eq] at h
  refine ⟨h.1.1, h.1.2, ?_⟩
  have h2 := h.2
  unfold goodV at h2
  simp only [Bool.and_eq_true, Bool.or_eq_true] at h2
  rcases h2.1 with h3 | h3
  · left
    rw [ByteArray.toList_eq]
    exact List.isEmpty_iff.1 h3
  · exact Or.inr h3
theorem fits_f (a b c : Int) (u v : ByteArray) : laws_zzFits14.f a b c u v = some (decide (u.size ≤ 2147483647 ∧ v.size ≤ 2147483647)) := by
  unfold laws_zzFits14.f
  by_cases h : (u.size : Int) > 2147483647
  · rw [if_pos h, decide_eq_false (by omega)]
  · rw [if_neg h]
    by_cases h2 : (v.size : Int) > 2147483647
    · rw [if_pos h2, decide_eq_false (by omega)]
    · rw [if_neg h2, decide_eq_true (by omega)]
theorem vc_f {a b c : Int} {u v : ByteArray} {a' b' c' : Int} {u' v' : ByteArray} (h : u.size ≤ 65536) (h' : u'.size ≤ 65536) : VersionCompare.f a b c u v a' b' c' u' v' = some (keyCmp (a, b, c, u) (a', b', c', u')) := by
  unfold VersionCompare.f
  rw [if_pos ⟨by omega, by omega⟩]; rfl
/-- What the law asks of the three keys. -/
theorem order_keys {x y z : Key} (hx : GoodU x.2.2.2) (hy : GoodU y.2.2.2) (hz : GoodU z.2.2.2) :
    keyCmp y x = wrap64 (- keyCmp x y) ∧ (keyCmp x y = 0 ↔ x = y) ∧ ¬ keyCmp x y < (-1) ∧ ¬ keyCmp x y > 1 ∧ (¬ 0 < keyCmp x y → ¬ 0 < keyCmp y z → keyCmp x z ≤ 0 ∧ (¬ keyCmp x z < 0 → keyCmp x y = 0 ∧ keyCmp y z = 0)) := by
  have px : True ∧ True ∧ True ∧ GoodU x.2.2.2 := ⟨trivial, trivial, trivial, hx⟩
  have py : True ∧ True ∧ True ∧ GoodU y.2.2.2 := ⟨trivial, trivial, trivial, hy⟩
  have pz : True ∧ True ∧ True ∧ GoodU z.2.2.2 := ⟨trivial, trivial, trivial, hz⟩
  have r := keyOrd.rng x y px py
  have r2 := keyOrd.rng y z py pz
  have an := keyOrd.anti x y px py
  refine ⟨by rw [an]; unfold wrap64; omega, keyOrd.eq x y px py, by omega, by omega, fun h1 h2 => ⟨keyOrd.trans x y z px py pz (by omega) (by omega), fun h3 => ?_⟩⟩
  by_cases h4 : keyCmp x y < 0 ∨ keyCmp y z < 0
  · exact absurd (keyOrd.lt x y z px py pz (by omega) (by omega) h4) h3
  · omega
theorem same_key (M m t : Int) (u : ByteArray) (M' m' t' : Int) (u' : ByteArray) : (M == M' && (m == m' && (t == t' && (u.toList == u'.toList && ((⟨#[]⟩ : ByteArray).toList == (⟨#[]⟩ : ByteArray).toList))))) = decide ((M, m, t, u) = (M', m', t', u')) := by
  rw [Bool.eq_iff_iff]
  simp only [Bool.and_eq_true, beq_iff_eq, decide_eq_true_eq, Prod.mk.injEq]
  constructor
  · rintro ⟨h1, h2, h3, h4, _⟩
    exact ⟨h1, h2, h3, nil_ext h4⟩
  · rintro ⟨h1, h2, h3, h4⟩
    exact ⟨h1, h2, h3, by rw [h4], trivial⟩
theorem three_good {k : Nat} {a b c : S29} (hk : 200200 < k) : laws_svGood.f k [a, b, c] = some (goodS a && (goodS b && goodS c)) := by
  rw [svGood_f _ (by simp) _ hk]
  simp
theorem tame (a0_0 a0_1 a0_2 : Int) (a0_3 a0_4 : ByteArray) (a1_0 a1_1 a1_2 : Int) (a1_3 a1_4 : ByteArray) (a2_0 a2_1 a2_2 : Int) (a2_3 a2_4 : ByteArray) : Tame a0_0 a0_1 a0_2 a0_3 a0_4 a1_0 a1_1 a1_2 a1_3 a1_4 a2_0 a2_1 a2_2 a2_3 a2_4 := by
  intro k t152 t153 t154 t155 t156 t157 t158 t159 t160 t161 t162 t163 t164 t165 hg h1 h2 h3 h4 h5 h6
  have hg' := at_rounds (k' := k + 200201) (fun k => laws_svGood.mono _ k) (by omega) hg
  rw [three_good (by omega)] at hg'
  injection hg' with hg'
  simp only [Bool.and_eq_true] at hg'
  obtain ⟨g0, g1, g2⟩ := hg'
  obtain ⟨p1, p2, p3⟩ := good_u g0
  obtain ⟨q1, q2, q3⟩ := good_u g1
  obtain ⟨s1, s2, s3⟩ := good_u g2
  simp only at p1 p2 p3 q1 q2 q3 s1 s2 s3
  rw [vc_f p1 q1] at h1
  rw [vc_f q1 s1] at h2
  rw [vc_f p1 s1] at h3
  rw [vc_f q1 p1] at h6
  unfold laws_svMeta.f at h4 h5
  injection h1 with h1; injection h2 with h2; injection h3 with h3; injection h4 with h4; injection h5 with h5; injection h6 with h6
  simp only [Prod.mk.injEq] at h4 h5
  obtain ⟨rfl, rfl, rfl, rfl, rfl⟩ := h4
  obtain ⟨rfl, rfl, rfl, rfl, rfl⟩ := h5
  obtain ⟨o1, o2, o3, o4, o5⟩ := order_keys (x := (a0_0, a0_1, a0_2, a0_3)) (y := (a1_0, a1_1, a1_2, a1_3)) (z := (a2_0, a2_1, a2_2, a2_3)) p3 q3 s3
  rw [h1] at o1 o2 o3 o4 o5
  rw [h2, h3] at o5
  rw [h6] at o1
  refine ⟨o1, ?_, o3, o4, fun x y => ⟨(o5 x y).1, fun z => ((o5 x y).2 z).1⟩⟩
  rw [same_key]
  by_cases e : t152 = 0
  · rw [decide_eq_true (o2.1 e)]
    simp [e]
  · rw [decide_eq_false (fun h => e (o2.2 h))]
    simp [e]
theorem j0_true (k : Nat) (a0_0 a0_1 a0_2 : Int) (a0_3 a0_4 : ByteArray) (a1_0 a1_1 a1_2 : Int) (a1_3 a1_4 : ByteArray) (a2_0 a2_1 a2_2 : Int) (a2_3 a2_4 : ByteArray) (b : Bool) (hb : b = true) : laws_FnSemverOrder.j0 (k + 1) b a0_0 a0_1 a0_2 a0_3 a0_4 a1_0 a1_1 a1_2 a1_3 a1_4 a2_0 a2_1 a2_2 a2_3 a2_4 = some true := by
  subst hb; rfl
theorem order_pure (a0_0 a0_1 a0_2 : Int) (a0_3 a0_4 : ByteArray) (a1_0 a1_1 a1_2 : Int) (a1_3 a1_4 : ByteArray) (a2_0 a2_1 a2_2 : Int) (a2_3 a2_4 : ByteArray) : ∃ k, laws_FnSemverOrder.f k a0_0 a0_1 a0_2 a0_3 a0_4 a1_0 a1_1 a1_2 a1_3 a1_4 a2_0 a2_1 a2_2 a2_3 a2_4 = some true := by
  obtain ⟨n, hn⟩ : ∃ n : Nat, n = 200300 := ⟨_, rfl⟩
  refine ⟨n + 1, ?_⟩
  unfold laws_FnSemverOrder.f
  rw [fits_f, fits_f, fits_f]
  simp only [Option.bind_some]
  by_cases h0 : a0_3.size ≤ 2147483647 ∧ a0_4.size ≤ 2147483647
  · rw [decide_eq_true h0, if_pos rfl]
    by_cases h1 : a1_3.size ≤ 2147483647 ∧ a1_4.size ≤ 2147483647
    · rw [decide_eq_true h1, if_pos rfl]
      by_cases h2 : a2_3.size ≤ 2147483647 ∧ a2_4.size ≤ 2147483647
      · rw [decide_eq_true h2, laws_FnSemverOrder.j0, if_neg (by decide), three_good (by omega), Option.bind_some]
        by_cases hg : (goodS ⟨a0_0, a0_1, a0_2, a0_3, a0_4⟩ && (goodS ⟨a1_0, a1_1, a1_2, a1_3, a1_4⟩ && goodS ⟨a2_0, a2_1, a2_2, a2_3, a2_4⟩)) = true
        · rw [if_pos hg]
          simp only [Bool.and_eq_true] at hg
          obtain ⟨g0, g1, g2⟩ := hg
          obtain ⟨p1, p2, p3⟩ := good_u g0
          obtain ⟨q1, q2, q3⟩ := good_u g1
          obtain ⟨s1, s2, s3⟩ := good_u g2
          simp only at p1 p2 p3 q1 q2 q3 s1 s2 s3
          obtain ⟨o1, o2, o3, o4, o5⟩ := order_keys (x := (a0_0, a0_1, a0_2, a0_3)) (y := (a1_0, a1_1, a1_2, a1_3)) (z := (a2_0, a2_1, a2_2, a2_3)) p3 q3 s3
          simp only [vc_f p1 q1, vc_f q1 s1, vc_f p1 s1, vc_f q1 p1, laws_svMeta.f, Option.bind_some, same_key]
          have o2' : ¬ ((keyCmp (a0_0, a0_1, a0_2, a0_3) (a1_0, a1_1, a1_2, a1_3) == 0) != decide ((a0_0, a0_1, a0_2, a0_3) = (a1_0, a1_1, a1_2, a1_3))) = true := by
            by_cases e : keyCmp (a0_0, a0_1, a0_2, a0_3) (a1_0, a1_1, a1_2, a1_3) = 0
            · rw [decide_eq_true (o2.1 e), e]; decide
            · rw [decide_eq_false (fun h => e (o2.2 h)), beq_eq_false_iff_ne.2 e]; decide
          rw [if_pos o1, if_neg o2', if_neg o3, if_neg o4]
          by_cases c1 : keyCmp (a0_0, a0_1, a0_2, a0_3) (a1_0, a1_1, a1_2, a1_3) > 0
          · rw [if_pos c1]
          · rw [if_neg c1]
            by_cases c2 : keyCmp (a1_0, a1_1, a1_2, a1_3) (a2_0, a2_1, a2_2, a2_3) > 0
            · rw [if_pos c2]
            · rw [if_neg c2, if_pos (o5 c1 c2).1]
              by_cases c3 : keyCmp (a0_0, a0_1, a0_2, a0_3) (a2_0, a2_1, a2_2, a2_3) < 0
              · rw [if_pos c3]
              · rw [if_neg c3, if_pos ((o5 c1 c2).2 c3).1, ((o5 c1 c2).2 c3).2]; rfl
        · rw [if_neg hg]
      · rw [decide_eq_false h2, j0_true _ _ _ _ _ _ _ _ _ _ _ _ _ _ _ _ (!false) rfl]
    · rw [decide_eq_false h1, if_neg (by decide), j0_true _ _ _ _ _ _ _ _ _ _ _ _ _ _ _ _ _ rfl]
  · rw [decide_eq_false h0, if_neg (by decide), j0_true _ _ _ _ _ _ _ _ _ _ _ _ _ _ _ _ _ rfl]
theorem order_walk (a0_0 a0_1 a0_2 : Int) (a0_3 a0_4 : ByteArray) (a1_0 a1_1 a1_2 : Int) (a1_3 a1_4 : ByteArray) (a2_0 a2_1 a2_2 : Int) (a2_3 a2_4 : ByteArray) (w : World) (hG0 : Hand.Gl w)
    (w0_0 : (Lit.int .u64 a0_0).wf = true) (w0_1 : (Lit.int .u64 a0_1).wf = true) (w0_2 : (Lit.int .u64 a0_2).wf = true) (w0_3 : a0_3.size ≤ maxLen) (w0_4 : a0_4.size ≤ maxLen) (w1_0 : (Lit.int .u64 a1_0).wf = true) (w1_1 : (Lit.int .u64 a1_1).wf = true) (w1_2 : (Lit.int .u64 a1_2).wf = true) (w1_3 : a1_3.size ≤ maxLen) (w1_4 : a1_4.size ≤ maxLen) (w2_0 : (Lit.int .u64 a2_0).wf = true) (w2_1 : (Lit.int .u64 a2_1).wf = true) (w2_2 : (Lit.int .u64 a2_2).wf = true) (w2_3 : a2_3.size ≤ maxLen) (w2_4 : a2_4.size ≤ maxLen) :
    Calls Tryd.prog 5 #[.agg #[.int .u64 a0_0, .int .u64 a0_1, .int .u64 a0_2, .string a0_3, .string a0_4], .agg #[.int .u64 a1_0, .int .u64 a1_1, .int .u64 a1_2, .string a1_3, .string a1_4], .agg #[.int .u64 a2_0, .int .u64 a2_1, .int .u64 a2_2, .string a2_3, .string a2_4]] w fun e w' => e = .returned (.bool true) ∧ Below w.heap.size w w' := by
  obtain ⟨k, h⟩ := order_pure a0_0 a0_1 a0_2 a0_3 a0_4 a1_0 a1_1 a1_2 a1_3 a1_4 a2_0 a2_1 a2_2 a2_3 a2_4
  exact laws_FnSemverOrder.calls k a0_0 a0_1 a0_2 a0_3 a0_4 a1_0 a1_1 a1_2 a1_3 a1_4 a2_0 a2_1 a2_2 a2_3 a2_4 true w hG0 (tame a0_0 a0_1 a0_2 a0_3 a0_4 a1_0 a1_1 a1_2 a1_3 a1_4 a2_0 a2_1 a2_2 a2_3 a2_4) h
end Go.Proofs.YtalpehfjjidfhaaDoor.MQ
