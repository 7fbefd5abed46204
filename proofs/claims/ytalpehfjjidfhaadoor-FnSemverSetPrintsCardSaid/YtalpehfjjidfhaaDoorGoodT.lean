/- What is proved: the plain law of versions' valid parts, for the print MT. -/
import Derived.Test.YtalpehfjjidfhaaDoorMTx1
import Derived.Test.YtalpehfjjidfhaaDoorGramS
namespace Go.Proofs.YtalpehfjjidfhaaDoor.MT
open Go Go.RowKit Sv Hand MS ML
open Go.Proofs.YtalpehfjjidfhaaDoorW.PrintWords Go.Proofs.YtalpehfjjidfhaaDoorW.PrintLast Go.Proofs.YtalpehfjjidfhaaDoorW.PrintMore
open Go.Proofs.YtalpehfjjidfhaaDoor.MA (tl identB identL digsL okPre okSmall validPre smallPre all_bs bs_size)
set_option linter.unusedVariables false
set_option linter.unusedSimpArgs false
theorem SmallPre_l0 (xs : List ByteArray) (M : Nat) (hM : M < 8796093022200) (hx : ∀ x ∈ xs, x.size ≤ M) (hl : xs.length < 8796093022208) : ∀ (rest : List ByteArray) (i k : Nat), xs.drop i = rest → rest.length + M < k →
    ML.spec_SmallPre.l0 k xs (xs.length : Int) (i : Int) = some (rest.all fun x => okSmall (tl x))
  | [], i, k, hd, hk => by
    obtain ⟨k, rfl⟩ : ∃ k', k = k' + 1 := ⟨k - 1, by omega⟩
    have := drop_nil hd
    unfold ML.spec_SmallPre.l0
    rw [if_neg (by omega)]; rfl
  | c :: r, i, k, hd, hk => by
    obtain ⟨k, rfl⟩ : ∃ k', k = k' + 1 := ⟨k - 1, by omega⟩
    have hlt := drop_lt hd
    have hc : c.size ≤ M := hx c (by rw [← List.take_append_drop i xs, hd]; simp)
    have hk' : r.length + M < k := by simp at hk; omega
    have ih := SmallPre_l0 xs M hM hx hl r (i + 1) k (drop_succ hd) hk'
    unfold ML.spec_SmallPre.l0
    rw [if_pos (by omega), if_pos (by omega), if_pos (by omega), rdOf_drop hd, Digits_f c (by omega) k (by omega), w1 i (by omega), ih]
    simp only [Option.bind_some, List.all_cons]
    unfold okSmall
    have hsz : (tl c).length = c.size := (size_data c).symm
    by_cases h2 : digsL (tl c) = true
    · rw [if_pos h2, h2]
      by_cases h3 : (c.size : Int) > 19
      · rw [if_pos h3]
        have : ¬ (tl c).length ≤ 19 := by omega
        rw [decide_eq_false this]; rfl
      · rw [if_neg h3]
        have : (tl c).length ≤ 19 := by omega
        rw [decide_eq_true this]; rfl
    · rw [if_neg h2, Bool.eq_false_iff.2 h2]; rfl

theorem SmallPre_f (a : ByteArray) (ha : a.size < 1000000000000) (k : Nat) (hk : 2 * a.size + 3 < k) : ML.spec_SmallPre.f k a = some (smallPre a) := by
  have hsz : (tl a).length = a.size := (size_data a).symm
  have l1 := splitD_length (tl a)
  unfold ML.spec_SmallPre.f
  rw [Identifiers_f a (by omega) k (by omega), Option.bind_some]
  have := SmallPre_l0 (bs (splitD (tl a))) a.size (by omega) (by rw [← hsz]; exact bs_size (splitD_mem (tl a))) (by rw [bs_length]; omega) (bs (splitD (tl a))) 0 k rfl (by rw [bs_length]; omega)
  rw [all_bs] at this
  exact this
theorem svShort1 (x : ByteArray) (k : Nat) (hk : 2 ≤ k) : MS.laws_svShort.f k [x] = some (decide (x.size ≤ 65536)) := by
  obtain ⟨k, rfl⟩ : ∃ k', k = k' + 2 := ⟨k - 2, by omega⟩
  unfold MS.laws_svShort.f MS.laws_svShort.l0
  rw [if_pos (by simp), if_pos (by omega), if_pos (by simp)]
  have e : rdOf ByteArray.empty [x] 0 = x := rfl
  rw [e]
  by_cases h : (x.size : Int) > 65536
  · rw [if_pos h, decide_eq_false (by omega)]
  · rw [if_neg h, decide_eq_true (by omega)]
    unfold MS.laws_svShort.l0
    have e2 : wrap64 (0 + 1) = 1 := by unfold wrap64; omega
    have e3 : (([x].length : Nat) : Int) = 1 := rfl
    rw [e2, e3, if_neg (by omega)]
theorem svShort2 (x y : ByteArray) (k : Nat) (hk : 3 ≤ k) : MS.laws_svShort.f k [x, y] = some (decide (x.size ≤ 65536) && decide (y.size ≤ 65536)) := by
  obtain ⟨k, rfl⟩ : ∃ k', k = k' + 3 := ⟨k - 3, by omega⟩
  have e2 : wrap64 (0 + 1) = 1 := by unfold wrap64; omega
  have e4 : wrap64 (1 + 1) = 2 := by unfold wrap64; omega
  have e3 : (([x, y].length : Nat) : Int) = 2 := rfl
  unfold MS.laws_svShort.f
  unfold MS.laws_svShort.l0
  rw [e3, if_pos (by omega), if_pos (by omega), if_pos (by omega), e2]
  have r0 : rdOf ByteArray.empty [x, y] 0 = x := rfl
  have r1 : rdOf ByteArray.empty [x, y] 1 = y := rfl
  rw [r0]
  by_cases h : (x.size : Int) > 65536
  · rw [if_pos h, decide_eq_false (by omega)]; rfl
  · rw [if_neg h, decide_eq_true (by omega), Bool.true_and]
    unfold MS.laws_svShort.l0
    rw [e3, if_pos (by omega), if_pos (by omega), if_pos (by omega), e4, r1]
    by_cases h2 : (y.size : Int) > 65536
    · rw [if_pos h2, decide_eq_false (by omega)]
    · rw [if_neg h2, decide_eq_true (by omega)]
      unfold MS.laws_svShort.l0
      rw [e3, if_neg (by omega)]
/-- Valid parts. -/
def goodV (u v : ByteArray) : Bool := ((tl u).isEmpty || (validPre u && smallPre u)) && ((tl v).isEmpty || validMeta v)
theorem Good_f (a b c : Int) (u v : ByteArray) (hu : u.size ≤ 65536) (hv : v.size ≤ 65536) (k : Nat) (hk : 200000 < k) : spec_Good.f k a b c u v = some (goodV u v) := by
  have emp : ∀ x : ByteArray, x.toList = [] ↔ (tl x).isEmpty = true := by
    intro x; rw [ByteArray.toList_eq]; show tl x = [] ↔ _; cases tl x <;> simp
  unfold spec_Good.f goodV
  rw [ValidMeta_f v (by omega) k (by omega), ValidPre_f u (by omega) k (by omega), SmallPre_f u (by omega) k (by omega)]
  simp only [Option.bind_some, emp]
  cases (tl u).isEmpty <;> cases (tl v).isEmpty <;> cases validPre u <;> cases smallPre u <;> cases validMeta v <;> rfl
/-- A version of short, valid parts. -/
def goodS (s : S29) : Bool := decide (s.f3.size ≤ 65536) && decide (s.f4.size ≤ 65536) && goodV s.f3 s.f4
theorem svGood_l0 (xs : List S29) (hl : xs.length < 8796093022208) : ∀ (rest : List S29) (i k : Nat), xs.drop i = rest → rest.length + 200001 < k →
    laws_svGood.l0 k xs (xs.length : Int) (i : Int) = some (rest.all goodS)
  | [], i, k, hd, hk => by
    obtain ⟨k, rfl⟩ : ∃ k', k = k' + 1 := ⟨k - 1, by omega⟩
    have := drop_nil hd
    unfold laws_svGood.l0
    rw [if_neg (by omega)]; rfl
  | c :: r, i, k, hd, hk => by
    obtain ⟨k, rfl⟩ : ∃ k', k = k' + 1 := ⟨k - 1, by omega⟩
    have hlt := drop_lt hd
    have hk' : r.length + 200001 < k := by simp at hk; omega
    have ih := svGood_l0 xs hl r (i + 1) k (drop_succ hd) hk'
    have hr : rd_T29 xs (i : Int) = c := rdOf_drop hd
    unfold laws_svGood.l0
    rw [if_pos (by omega), if_pos (by omega), if_pos (by omega), hr, svShort2 _ _ k (by omega), w1 i (by omega), ih]
    simp only [Option.bind_some, List.all_cons]
    unfold goodS
    by_cases h1 : c.f3.size ≤ 65536 ∧ c.f4.size ≤ 65536
    · rw [decide_eq_true h1.1, decide_eq_true h1.2, Good_f _ _ _ _ _ h1.1 h1.2 k (by omega)]
      simp only [Bool.and_self, if_true, Option.bind_some, Bool.true_and]
      cases goodV c.f3 c.f4 <;> rfl
    · have : (decide (c.f3.size ≤ 65536) && decide (c.f4.size ≤ 65536)) = false := by
        rw [Bool.and_eq_false_iff, decide_eq_false_iff_not, decide_eq_false_iff_not]; omega
      rw [this]; rfl
theorem svGood_f (xs : List S29) (hl : xs.length < 100) (k : Nat) (hk : 200200 < k) : laws_svGood.f k xs = some (xs.all goodS) := by
  unfold laws_svGood.f
  exact svGood_l0 xs (by omega) xs 0 k rfl (by omega)
end Go.Proofs.YtalpehfjjidfhaaDoor.MT
