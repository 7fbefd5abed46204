/- The plain law of FnSemverPreNumbers, and what the law's function answers. -/
import Derived.Test.YtalpehfjjidfhaaDoorGramN
import Derived.Test.YtalpehfjjidfhaaDoorMNx4
namespace Go.Proofs.YtalpehfjjidfhaaDoor.MN
open Go Go.RowKit Sv Hand
open Go.Proofs.YtalpehfjjidfhaaDoorW.PrintWords
open Go.Proofs.YtalpehfjjidfhaaDoor.MA (tl validPre smallPre dot append_tl)
set_option linter.unusedVariables false
set_option linter.unusedSimpArgs false
/-- A number in decimal, as bytes. -/
def decB (n : Nat) : ByteArray := ⟨(dec n).toArray⟩
theorem tl_decB (n : Nat) : tl (decB n) = dec n := by
  show (dec n).toArray.toList = dec n
  simp
theorem one (x : Nat) (h : x < 10) : strOfNums [(48 + (x : Int) % 256) % 256] = ⟨#[UInt8.ofNat (48 + x)]⟩ := by
  have e : (48 + (x : Int) % 256) % 256 = ((48 + x : Nat) : Int) := by omega
  rw [e]
  show (⟨#[UInt8.ofNat (((48 + x : Nat) : Int)).toNat]⟩ : ByteArray) = _
  rw [Int.toNat_natCast]
theorem dec_len : ∀ (d n : Nat), n < 10 ^ (d + 1) → (dec n).length ≤ d + 1
  | 0, n, h => by
    rw [dec, if_pos (by simpa using h)]; simp
  | d + 1, n, h => by
    rw [dec]
    by_cases c : n < 10
    · rw [if_pos c]; simp
    · rw [if_neg c, List.length_append]
      have := dec_len d (n / 10) (by
        rw [Nat.pow_succ] at h
        exact Nat.div_lt_of_lt_mul (by rw [Nat.mul_comm]; exact h))
      simp; omega
theorem dec_size (n : Nat) (h : n ≤ 18446744073709551615) : (decB n).size ≤ 20 := by
  have := dec_len 19 n (by
    have e : (10 : Nat) ^ (19 + 1) = 100000000000000000000 := by decide
    omega)
  rw [size_data, show (decB n).data.toList = dec n from tl_decB n]
  exact this
theorem Decimal_f : ∀ (n : Nat) (k : Nat), n ≤ 18446744073709551615 → n < k → spec_Decimal.f k (n : Int) = some (decB n)
  | n, 0, h, hk => absurd hk (by omega)
  | n, k + 1, h, hk => by
    rw [spec_Decimal.f]
    by_cases c : n < 10
    · rw [if_pos (by omega), one n c]
      unfold decB
      rw [dec, if_pos c]
    · rw [if_neg (by omega)]
      have q : Int.tdiv (n : Int) 10 = ((n / 10 : Nat) : Int) := by
        rw [Int.tdiv_eq_ediv_of_nonneg (by omega)]; omega
      have r : Int.tmod (n : Int) 10 = ((n % 10 : Nat) : Int) := by
        rw [Int.tmod_eq_emod_of_nonneg (by omega)]; omega
      rw [q, r, IntWalk.u64_in _ ⟨by omega, by omega⟩, Decimal_f (n / 10) k (by omega) (by omega)]
      simp only [Option.bind_some]
      rw [one (n % 10) (Nat.mod_lt _ (by decide))]
      have e : decB n = decB (n / 10) ++ ⟨#[UInt8.ofNat (48 + n % 10)]⟩ := by
        refine bytes_ext ?_
        rw [show (decB n).data.toList = dec n from tl_decB n, show (decB (n / 10) ++ (⟨#[UInt8.ofNat (48 + n % 10)]⟩ : ByteArray)).data.toList = (decB (n / 10)).data.toList ++ [UInt8.ofNat (48 + n % 10)] by simp, show (decB (n / 10)).data.toList = dec (n / 10) from tl_decB _]
        conv => lhs; rw [dec, if_neg c]
      have s := dec_size (n / 10) (by omega)
      rw [if_pos (by have : (⟨#[UInt8.ofNat (48 + n % 10)]⟩ : ByteArray).size = 1 := rfl; omega), e]
theorem num_dec2 (n : Nat) (h : n ≤ 18446744073709551615) : num? (dec n) = some n := by
  unfold num?
  rw [parse_of (dec_ne n) (dec_dig n) (by rw [dec_val]; exact h), dec_val]
theorem cmpPart_dec (n m : Nat) (hn : n ≤ 18446744073709551615) (hm : m ≤ 18446744073709551615) : cmpPart (dec n) (dec m) = if n = m then 0 else if m < n then 1 else -1 := by
  unfold cmpPart
  by_cases e : n = m
  · subst e; rw [if_pos rfl, if_pos rfl]
  · have : ¬ dec n = dec m := fun h => e (by rw [← dec_val n, ← dec_val m, h])
    rw [if_neg this, if_neg e, if_neg (dec_ne n), if_neg (dec_ne m), num_dec2 n hn, num_dec2 m hm]
theorem split_dec (n : Nat) : splitD (dec n) = [dec n] := by
  refine splitD_none fun h => ?_
  have := List.all_eq_true.1 (dec_dig n) 46 h
  revert this; decide
theorem andThen_none (x : Int) : andThen x 0 = x := by unfold andThen; split <;> omega
theorem pre_cmp (a : ByteArray) (n m : Nat) (hn : n ≤ 18446744073709551615) (hm : m ≤ 18446744073709551615) : preCmp ((a ++ dot) ++ decB n) ((a ++ dot) ++ decB m) = if n = m then 0 else if m < n then 1 else -1 := by
  have ne : ∀ x, ((a ++ dot) ++ decB x).toList ≠ [] := by
    intro x h
    rw [ByteArray.toList_eq] at h
    have h2 := append_tl a (decB x)
    rw [show tl ((a ++ dot) ++ decB x) = [] from h] at h2
    have h3 := congrArg List.length h2
    simp at h3
  unfold preCmp
  rw [if_neg (fun h => ne n h.1), if_neg (ne n), if_neg (ne m)]
  unfold MA.cmpPre
  rw [append_tl, append_tl, splitD_app, splitD_app, tl_decB, tl_decB, split_dec, split_dec, cmpParts_head]
  simp only [cmpParts]
  rw [andThen_none, cmpPart_dec n m hn hm]
theorem ver_cmp (M m t : Int) (a : ByteArray) (x y : Nat) (hx : x ≤ 18446744073709551615) (hy : y ≤ 18446744073709551615) : cmpVer M m t ((a ++ dot) ++ decB x) M m t ((a ++ dot) ++ decB y) = if x = y then 0 else if y < x then 1 else -1 := by
  have s : ∀ z : Int, seg z z = 0 := fun z => seg_none.2 rfl
  unfold cmpVer
  rw [if_pos (s _), if_pos (s _), if_pos (s _), pre_cmp a x y hx hy]
theorem less_is (M m t : Int) (a : ByteArray) (x y : Nat) (hx : x ≤ 18446744073709551615) (hy : y ≤ 18446744073709551615) : decide (cmpVer M m t ((a ++ dot) ++ decB x) M m t ((a ++ dot) ++ decB y) < 0) = decide ((x : Int) < (y : Int)) := by
  rw [ver_cmp M m t a x y hx hy, Bool.eq_iff_iff, decide_eq_true_eq, decide_eq_true_eq]
  (repeat' split) <;> omega
theorem equal_is (M m t : Int) (a : ByteArray) (x y : Nat) (hx : x ≤ 18446744073709551615) (hy : y ≤ 18446744073709551615) : decide (cmpVer M m t ((a ++ dot) ++ decB x) M m t ((a ++ dot) ++ decB y) = 0) = ((x : Int) == (y : Int)) := by
  rw [ver_cmp M m t a x y hx hy, Bool.eq_iff_iff, decide_eq_true_eq, beq_iff_eq]
  (repeat' split) <;> omega
theorem tame (M m t : Int) (u v a : ByteArray) (x y : Nat) (hx : x ≤ 18446744073709551615) (hy : y ≤ 18446744073709551615) : Tame M m t u v a (x : Int) (y : Int) := by
  intro k t160 t166 t161 t162 t163 t164 t165 t167 t168 t169 t170 t171 t174 h1 h2 h3 h4 h5
  have g1 := at_rounds (k' := k + x + 1) (fun k => spec_Decimal.mono _ k) (by omega) h1
  have g3 := at_rounds (k' := k + y + 1) (fun k => spec_Decimal.mono _ k) (by omega) h3
  rw [Decimal_f x _ hx (by omega)] at g1
  rw [Decimal_f y _ hy (by omega)] at g3
  injection g1 with g1
  injection g3 with g3
  subst g1 g3
  unfold laws_svPre.f at h2 h4
  injection h2 with h2
  injection h4 with h4
  simp only [Prod.mk.injEq] at h2 h4
  obtain ⟨rfl, rfl, rfl, rfl, rfl⟩ := h2
  obtain ⟨rfl, rfl, rfl, rfl, rfl⟩ := h4
  unfold VersionLess.f at h5
  split at h5
  · injection h5 with h5
    rw [← h5, less_is M m t a x y hx hy]
    exact beq_self_eq_true _
  · cases h5
theorem fits_f (a b c : Int) (u v : ByteArray) : laws_zzFits14.f a b c u v = some (decide (u.size ≤ 2147483647 ∧ v.size ≤ 2147483647)) := by
  unfold laws_zzFits14.f
  by_cases h : (u.size : Int) > 2147483647
  · rw [if_pos h, decide_eq_false (by omega)]
  · rw [if_neg h]
    by_cases h2 : (v.size : Int) > 2147483647
    · rw [if_pos h2, decide_eq_false (by omega)]
    · rw [if_neg h2, decide_eq_true (by omega)]
theorem good1 (k : Nat) (hk : 200200 < k) (s : S29) : laws_svGood.f k [s] = some (goodS s) := by
  rw [svGood_f _ (by simp) _ hk]; simp
theorem j0_true (k : Nat) (p : ByteArray) (x y : Int) (z : Bool) (a b c : Int) (d e : ByteArray) (hz : z = true) : laws_FnSemverPreNumbers.j0 (k + 1) p x y z a b c d e = some true := by
  subst hz; rfl
theorem j1_true (k : Nat) (p : ByteArray) (x y : Int) (z : Bool) (a b c : Int) (d e : ByteArray) (hz : z = true) : laws_FnSemverPreNumbers.j1 (k + 1) p x y z a b c d e = some true := by
  subst hz; rfl
theorem numbers_pure (M m t : Int) (u v a : ByteArray) (x y : Nat) (hx : x ≤ 18446744073709551615) (hy : y ≤ 18446744073709551615) : ∃ k, laws_FnSemverPreNumbers.f k M m t u v a (x : Int) (y : Int) = some true := by
  obtain ⟨n, hn⟩ : ∃ n : Nat, n = 18446744073709551615 + 200300 := ⟨_, rfl⟩
  refine ⟨n + 2, ?_⟩
  unfold laws_FnSemverPreNumbers.f
  rw [fits_f, Option.bind_some]
  by_cases h0 : u.size ≤ 2147483647 ∧ v.size ≤ 2147483647
  · rw [decide_eq_true h0, if_pos rfl]
    by_cases h1 : (a.size : Int) > 2147483647
    · rw [decide_eq_true h1, j0_true _ _ _ _ _ _ _ _ _ _ rfl]
    · rw [decide_eq_false h1, laws_FnSemverPreNumbers.j0, if_neg (by decide)]
      by_cases c1 : a.toList = []
      · rw [if_pos c1, j1_true _ _ _ _ _ _ _ _ _ _ rfl]
      · rw [if_neg c1]
        by_cases c2 : (x : Int) > 9999999999999999999
        · rw [if_pos c2, j1_true _ _ _ _ _ _ _ _ _ _ rfl]
        · rw [if_neg c2]
          by_cases c3 : (y : Int) > 9999999999999999999
          · rw [if_pos c3, j1_true _ _ _ _ _ _ _ _ _ _ rfl]
          · rw [if_neg c3]
            unfold laws_svPre.f
            simp only [Option.bind_some]
            rw [good1 _ (by omega), Option.bind_some]
            cases hg : goodS ⟨M, m, t, a, v⟩
            · rw [j1_true _ _ _ _ (!false) _ _ _ _ _ rfl]
            · have sx := dec_size x hx
              have sy := dec_size y hy
              have sd : ∀ z : ByteArray, ((a ++ (⟨#[46]⟩ : ByteArray)) ++ z).size = a.size + 1 + z.size := by
                intro z
                rw [ByteArray.size_append, ByteArray.size_append]; rfl
              have sd1 : (a ++ (⟨#[46]⟩ : ByteArray)).size = a.size + 1 := by rw [ByteArray.size_append]; rfl
              rw [laws_FnSemverPreNumbers.j1, if_neg (by decide), if_pos (by omega), Decimal_f x n hx (by omega), Decimal_f y n hy (by omega)]
              unfold laws_svPre.f VersionLess.f VersionEqual.f
              simp only [Option.bind_some]
              rw [if_pos (by rw [sd1]; omega), if_pos (by rw [sd1]; omega), if_pos ⟨by rw [sd]; omega, by rw [sd]; omega⟩]
              simp only [Option.bind_some]
              rw [if_pos (by rw [less_is M m t a x y hx hy]; exact beq_self_eq_true _), if_pos ⟨by rw [sd]; omega, by rw [sd]; omega⟩, equal_is M m t a x y hx hy]
              simp
  · rw [decide_eq_false h0, if_neg (by decide), j0_true _ _ _ _ _ _ _ _ _ _ rfl]
theorem wf_u64 {x : Int} (h : (Lit.int .u64 x).wf = true) : ∃ n : Nat, x = (n : Int) ∧ n ≤ 18446744073709551615 := by
  unfold Lit.wf at h
  simp only [Bool.and_eq_true, decide_eq_true_eq] at h
  have h1 : 0 ≤ x := h.1
  have h2 : x ≤ 18446744073709551615 := h.2
  exact ⟨x.toNat, by omega, by omega⟩
theorem preNumbers_walk (a0_0 a0_1 a0_2 : Int) (a0_3 a0_4 : ByteArray) (a1 : ByteArray) (a2 a3 : Int) (w : World) (hG0 : Hand.Gl w)
    (w0_0 : (Lit.int .u64 a0_0).wf = true) (w0_1 : (Lit.int .u64 a0_1).wf = true) (w0_2 : (Lit.int .u64 a0_2).wf = true) (w0_3 : a0_3.size ≤ maxLen) (w0_4 : a0_4.size ≤ maxLen) (w1 : a1.size ≤ 140737488351232) (w2 : (Lit.int .u64 a2).wf = true) (w3 : (Lit.int .u64 a3).wf = true) :
    Calls Tryd.prog 6 #[.agg #[.int .u64 a0_0, .int .u64 a0_1, .int .u64 a0_2, .string a0_3, .string a0_4], .string a1, .int .u64 a2, .int .u64 a3] w fun e w' => e = .returned (.bool true) ∧ Below w.heap.size w w' := by
  obtain ⟨x, rfl, hx⟩ := wf_u64 w2
  obtain ⟨y, rfl, hy⟩ := wf_u64 w3
  obtain ⟨k, h⟩ := numbers_pure a0_0 a0_1 a0_2 a0_3 a0_4 a1 x y hx hy
  exact laws_FnSemverPreNumbers.calls k a0_0 a0_1 a0_2 a0_3 a0_4 a1 x y true w hG0 (tame a0_0 a0_1 a0_2 a0_3 a0_4 a1 x y hx hy) h
end Go.Proofs.YtalpehfjjidfhaaDoor.MN
