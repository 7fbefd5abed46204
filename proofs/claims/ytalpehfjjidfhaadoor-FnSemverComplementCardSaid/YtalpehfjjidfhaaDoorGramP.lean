/- The plain law of the grammar's functions, for the print MP: no program in sight. -/
import Derived.Test.YtalpehfjjidfhaaDoorMPx2
import Derived.Test.YtalpehfjjidfhaaDoorOrd
namespace Go.Proofs.YtalpehfjjidfhaaDoor.MP
open Go.RowKit Go.Proofs.YtalpehfjjidfhaaDoorW.PrintWords Sv
open Go.Proofs.YtalpehfjjidfhaaDoor.MA (tl identB identL digsL okPre okSmall validPre smallPre toList_ne all_bs bs_size)
set_option linter.unusedVariables false
set_option linter.unusedSimpArgs false
theorem isDigit_f (c : UInt8) : spec_isDigit.f (c.toNat : Int) = some (dig c) := by
 unfold spec_isDigit.f dig
 split
 ·
  rename_i h
  congr 1
  rw [Bool.eq_iff_iff, decide_eq_true_eq, decide_eq_true_eq]; omega
 ·
  rename_i h
  congr 1
  symm
  rw [decide_eq_false_iff_not]; omega
theorem isIdent_f (c : UInt8) : spec_isIdent.f (c.toNat : Int) = some (identB c) := by
 unfold spec_isIdent.f
 rw [isDigit_f, Option.bind_some]
 unfold identB
 by_cases h : dig c = true
 ·
  rw [if_pos h, h]; rfl
 ·
  rw [if_neg h, Bool.eq_false_iff.2 h, Bool.false_or]
  repeat' split
  all_goals
   congr 1
   rw [Bool.eq_iff_iff]
   simp only [Bool.or_eq_true, decide_eq_true_eq, beq_iff_eq, eq_self, true_iff]
   omega
theorem Digits_l0 (a : ByteArray) (ha : a.size < 4611686018427387900) : ∀ (rest : List UInt8) (i k : Nat), a.data.toList.drop i = rest → i ≤ a.size → rest.length < k →
  spec_Digits.l0 k a (i : Int) = some (rest.all dig && (a.toList != []))
 | [], i, k, hd, hi, hk => by
  obtain ⟨k, rfl⟩ : ∃ k', k = k' + 1 := ⟨k - 1, by omega⟩
  have := drop_nil hd
  rw [← size_data] at this
  unfold spec_Digits.l0
  rw [if_neg (by omega)]
  simp
 | c :: r, i, k, hd, hi, hk => by
  obtain ⟨k, rfl⟩ : ∃ k', k = k' + 1 := ⟨k - 1, by omega⟩
  have hlt := drop_lt hd
  rw [← size_data] at hlt
  unfold spec_Digits.l0
  rw [if_pos (by omega), if_pos (by omega), bt_drop hd, isDigit_f, Option.bind_some, w1 i (by omega), Digits_l0 a ha r (i + 1) k (drop_succ hd) (by omega) (by simp at hk; omega)]
  by_cases h : dig c = true
  ·
   rw [if_pos h, List.all_cons, h, Bool.true_and]
  ·
   rw [if_neg h, List.all_cons, Bool.eq_false_iff.2 h]; rfl
theorem ValidIdent_l0 (a : ByteArray) (ha : a.size < 4611686018427387900) : ∀ (rest : List UInt8) (i k : Nat), a.data.toList.drop i = rest → i ≤ a.size → rest.length < k →
  spec_ValidIdent.l0 k a (i : Int) = some (rest.all identB && (a.toList != []))
 | [], i, k, hd, hi, hk => by
  obtain ⟨k, rfl⟩ : ∃ k', k = k' + 1 := ⟨k - 1, by omega⟩
  have := drop_nil hd
  rw [← size_data] at this
  unfold spec_ValidIdent.l0
  rw [if_neg (by omega)]
  simp
 | c :: r, i, k, hd, hi, hk => by
  obtain ⟨k, rfl⟩ : ∃ k', k = k' + 1 := ⟨k - 1, by omega⟩
  have hlt := drop_lt hd
  rw [← size_data] at hlt
  unfold spec_ValidIdent.l0
  rw [if_pos (by omega), if_pos (by omega), bt_drop hd, isIdent_f, Option.bind_some, w1 i (by omega), ValidIdent_l0 a ha r (i + 1) k (drop_succ hd) (by omega) (by simp at hk; omega)]
  by_cases h : identB c = true
  ·
   rw [if_pos h, List.all_cons, h, Bool.true_and]
  ·
   rw [if_neg h, List.all_cons, Bool.eq_false_iff.2 h]; rfl

theorem Digits_f (a : ByteArray) (ha : a.size < 4611686018427387900) (k : Nat) (hk : a.size < k) : spec_Digits.f k a = some (digsL (tl a)) := by
 have := Digits_l0 a ha (tl a) 0 k (by simp) (by omega) (by rw [← size_data]; exact hk)
 unfold spec_Digits.f digsL
 rw [toList_ne] at this
 exact this
theorem ValidIdent_f (a : ByteArray) (ha : a.size < 4611686018427387900) (k : Nat) (hk : a.size < k) : spec_ValidIdent.f k a = some (identL (tl a)) := by
 have := ValidIdent_l0 a ha (tl a) 0 k (by simp) (by omega) (by rw [← size_data]; exact hk)
 unfold spec_ValidIdent.f identL
 rw [toList_ne] at this
 exact this
theorem Identifiers_l0 (a : ByteArray) (ha : a.size < 8796093022200) : ∀ (rest : List UInt8) (i : Nat) (acc : List ByteArray) (s k : Nat), a.data.toList.drop i = rest → s ≤ i → i ≤ a.size → (46 : UInt8) ∉ (a.data.toList.drop s).take (i - s) → acc.length ≤ i → rest.length < k →
  spec_Identifiers.l0 k a acc (s : Int) (i : Int) = some (acc ++ bs (splitD (a.data.toList.drop s)))
 | [], i, acc, s, k, hd, hs, hi, hn, hc, hk => by
  obtain ⟨k, rfl⟩ : ∃ k', k = k' + 1 := ⟨k - 1, by omega⟩
  have := drop_nil hd
  rw [← size_data] at this
  have e : i = a.size := by omega
  subst e
  have e1 : (a.data.toList.drop s).take (a.size - s) = a.data.toList.drop s := by
   rw [List.take_of_length_le]; rw [List.length_drop, ← size_data]; exact Nat.le_refl _
  rw [e1] at hn
  unfold spec_Identifiers.l0
  rw [if_neg (by omega), if_pos (by omega), if_pos (by omega), if_pos (by omega), splitD_none hn, Int.toNat_natCast]
  congr 2
  have : a.extract s a.size = ⟨(a.data.toList.drop s).toArray⟩ := bytes_ext (by rw [extract_data, e1])
  rw [this]; rfl
 | c :: r, i, acc, s, k, hd, hs, hi, hn, hc, hk => by
  obtain ⟨k, rfl⟩ : ∃ k', k = k' + 1 := ⟨k - 1, by omega⟩
  have hlt := drop_lt hd
  rw [← size_data] at hlt
  have hk' : r.length < k := by simp at hk; omega
  unfold spec_Identifiers.l0
  rw [if_pos (by omega), if_pos (by omega), bt_drop hd]
  have e1 : a.data.toList.drop s = (a.data.toList.drop s).take (i - s) ++ c :: r := by
   conv => lhs; rw [← List.take_append_drop (i - s) (a.data.toList.drop s)]
   rw [List.drop_drop, show s + (i - s) = i by omega, hd]
  by_cases h : c = 46
  ·
   subst h
   rw [if_pos (by rfl), if_pos (by omega), if_pos (by omega), if_pos (by omega), if_pos (by omega), w1 i (by omega)]
   rw [Identifiers_l0 a ha r (i + 1) _ (i + 1) k (drop_succ hd) (Nat.le_refl _) (by omega) (by simp) (by simp; omega) hk']
   rw [e1, splitD_at hn, drop_succ hd, Int.toNat_natCast, Int.toNat_natCast]
   have : a.extract s i = ⟨((a.data.toList.drop s).take (i - s)).toArray⟩ := bytes_ext (by rw [extract_data])
   rw [this]
   simp [bs]
  ·
   have hcn : ¬ (c.toNat : Int) = 46 := by
    intro e
    exact h (UInt8.toNat_inj.1 (by show c.toNat = 46; omega))
   rw [if_neg hcn, w1 i (by omega)]
   refine Identifiers_l0 a ha r (i + 1) acc s k (drop_succ hd) (by omega) (by omega) ?_ (by omega) hk'
   have e2 : (a.data.toList.drop s).take (i + 1 - s) = (a.data.toList.drop s).take (i - s) ++ [c] := by
    have e3 : i + 1 - s = (i - s) + 1 := by omega
    rw [e3, List.take_add_one]
    congr 1
    have : (a.data.toList.drop s)[i - s]? = some c := by
     rw [List.getElem?_drop, show s + (i - s) = i by omega]
     have := congrArg List.head? hd
     rwa [List.head?_drop] at this
    rw [this]; rfl
   rw [e2, List.mem_append, not_or]
   exact ⟨hn, by simp; exact fun e => h e.symm⟩
theorem Identifiers_f (a : ByteArray) (ha : a.size < 8796093022200) (k : Nat) (hk : a.size < k) : spec_Identifiers.f k a = some (bs (splitD (tl a))) := by
 have := Identifiers_l0 a ha (tl a) 0 [] 0 k (by simp) (Nat.le_refl _) (by omega) (by simp) (by simp) (by rw [← size_data]; exact hk)
 unfold spec_Identifiers.f
 simpa using this
theorem ValidPre_l0 (xs : List ByteArray) (M : Nat) (hM : M < 8796093022200) (hx : ∀ x ∈ xs, x.size ≤ M) (hl : xs.length < 8796093022208) : ∀ (rest : List ByteArray) (i k : Nat), xs.drop i = rest → rest.length + M < k →
  spec_ValidPre.l0 k xs (xs.length : Int) (i : Int) = some (rest.all fun x => okPre (tl x))
 | [], i, k, hd, hk => by
  obtain ⟨k, rfl⟩ : ∃ k', k = k' + 1 := ⟨k - 1, by omega⟩
  have := drop_nil hd
  unfold spec_ValidPre.l0
  rw [if_neg (by omega)]; rfl
 | c :: r, i, k, hd, hk => by
  obtain ⟨k, rfl⟩ : ∃ k', k = k' + 1 := ⟨k - 1, by omega⟩
  have hlt := drop_lt hd
  have hc : c.size ≤ M := hx c (by rw [← List.take_append_drop i xs, hd]; simp)
  have hk' : r.length + M < k := by simp at hk; omega
  have ih := ValidPre_l0 xs M hM hx hl r (i + 1) k (drop_succ hd) hk'
  unfold spec_ValidPre.l0
  rw [if_pos (by omega), if_pos (by omega), if_pos (by omega), rdOf_drop hd, ValidIdent_f c (by omega) k (by omega), Digits_f c (by omega) k (by omega), w1 i (by omega), ih]
  simp only [Option.bind_some, List.all_cons]
  unfold okPre
  by_cases h1 : identL (tl c) = true
  ·
   rw [if_pos h1, h1]
   by_cases h2 : digsL (tl c) = true
   ·
    rw [if_pos h2, h2]
    have hsz : (tl c).length = c.size := (size_data c).symm
    by_cases h3 : (c.size : Int) > 1
    ·
     rw [if_pos h3, if_pos (by omega)]
     cases e : tl c with
     | nil => rw [e] at hsz; simp at hsz; omega
     | cons d q =>
      have eb : bt c ((0 : Nat) : Int) = (d.toNat : Int) := bt_drop (r := q) (by rw [List.drop_zero]; exact e)
      have hq : ¬ (q.length + 1 ≤ 1) := by rw [e] at hsz; simp at hsz; omega
      by_cases h4 : d = 48
      ·
       subst h4
       rw [if_pos (by exact eb)]
       simp [plain, hq]
      ·
       rw [if_neg (by
        intro e'
        apply h4
        have e2 : ((d.toNat : Int)) = 48 := by rw [← eb]; exact e'
        exact UInt8.toNat_inj.1 (by show d.toNat = 48; omega))]
       simp [plain, h4]
    ·
     rw [if_neg h3]
     have : plain (tl c) = true := by simp [plain, hsz]; left; omega
     rw [this]; rfl
   ·
    rw [if_neg h2, Bool.eq_false_iff.2 h2]; rfl
  ·
   rw [if_neg h1, Bool.eq_false_iff.2 h1]; rfl
theorem SmallPre_l0 (xs : List ByteArray) (M : Nat) (hM : M < 8796093022200) (hx : ∀ x ∈ xs, x.size ≤ M) (hl : xs.length < 8796093022208) : ∀ (rest : List ByteArray) (i k : Nat), xs.drop i = rest → rest.length + M < k →
  spec_SmallPre.l0 k xs (xs.length : Int) (i : Int) = some (rest.all fun x => okSmall (tl x))
 | [], i, k, hd, hk => by
  obtain ⟨k, rfl⟩ : ∃ k', k = k' + 1 := ⟨k - 1, by omega⟩
  have := drop_nil hd
  unfold spec_SmallPre.l0
  rw [if_neg (by omega)]; rfl
 | c :: r, i, k, hd, hk => by
  obtain ⟨k, rfl⟩ : ∃ k', k = k' + 1 := ⟨k - 1, by omega⟩
  have hlt := drop_lt hd
  have hc : c.size ≤ M := hx c (by rw [← List.take_append_drop i xs, hd]; simp)
  have hk' : r.length + M < k := by simp at hk; omega
  have ih := SmallPre_l0 xs M hM hx hl r (i + 1) k (drop_succ hd) hk'
  unfold spec_SmallPre.l0
  rw [if_pos (by omega), if_pos (by omega), if_pos (by omega), rdOf_drop hd, Digits_f c (by omega) k (by omega), w1 i (by omega), ih]
  simp only [Option.bind_some, List.all_cons]
  unfold okSmall
  have hsz : (tl c).length = c.size := (size_data c).symm
  by_cases h2 : digsL (tl c) = true
  ·
   rw [if_pos h2, h2]
   by_cases h3 : (c.size : Int) > 19
   ·
    rw [if_pos h3]
    have : ¬ (tl c).length ≤ 19 := by omega
    rw [decide_eq_false this]; rfl
   ·
    rw [if_neg h3]
    have : (tl c).length ≤ 19 := by omega
    rw [decide_eq_true this]; rfl
  ·
   rw [if_neg h2, Bool.eq_false_iff.2 h2]; rfl

theorem ValidPre_f (a : ByteArray) (ha : a.size < 1000000000000) (k : Nat) (hk : 2 * a.size + 3 < k) : spec_ValidPre.f k a = some (validPre a) := by
 have hsz : (tl a).length = a.size := (size_data a).symm
 have l1 := splitD_length (tl a)
 unfold spec_ValidPre.f
 rw [Identifiers_f a (by omega) k (by omega), Option.bind_some]
 have := ValidPre_l0 (bs (splitD (tl a))) a.size (by omega) (by rw [← hsz]; exact bs_size (splitD_mem (tl a))) (by rw [bs_length]; omega) (bs (splitD (tl a))) 0 k rfl (by rw [bs_length]; omega)
 rw [all_bs] at this
 exact this
theorem SmallPre_f (a : ByteArray) (ha : a.size < 1000000000000) (k : Nat) (hk : 2 * a.size + 3 < k) : spec_SmallPre.f k a = some (smallPre a) := by
 have hsz : (tl a).length = a.size := (size_data a).symm
 have l1 := splitD_length (tl a)
 unfold spec_SmallPre.f
 rw [Identifiers_f a (by omega) k (by omega), Option.bind_some]
 have := SmallPre_l0 (bs (splitD (tl a))) a.size (by omega) (by rw [← hsz]; exact bs_size (splitD_mem (tl a))) (by rw [bs_length]; omega) (bs (splitD (tl a))) 0 k rfl (by rw [bs_length]; omega)
 rw [all_bs] at this
 exact this
/-- Metadata that is valid. -/
def validMeta (a : ByteArray) : Bool := (splitD (tl a)).all identL
theorem ValidMeta_l0 (xs : List ByteArray) (M : Nat) (hM : M < 8796093022200) (hx : ∀ x ∈ xs, x.size ≤ M) (hl : xs.length < 8796093022208) : ∀ (rest : List ByteArray) (i k : Nat), xs.drop i = rest → rest.length + M < k →
  spec_ValidMeta.l0 k xs (xs.length : Int) (i : Int) = some (rest.all fun x => identL (tl x))
 | [], i, k, hd, hk => by
  obtain ⟨k, rfl⟩ : ∃ k', k = k' + 1 := ⟨k - 1, by omega⟩
  have := drop_nil hd
  unfold spec_ValidMeta.l0
  rw [if_neg (by omega)]; rfl
 | c :: r, i, k, hd, hk => by
  obtain ⟨k, rfl⟩ : ∃ k', k = k' + 1 := ⟨k - 1, by omega⟩
  have hlt := drop_lt hd
  have hc : c.size ≤ M := hx c (by rw [← List.take_append_drop i xs, hd]; simp)
  have hk' : r.length + M < k := by simp at hk; omega
  have ih := ValidMeta_l0 xs M hM hx hl r (i + 1) k (drop_succ hd) hk'
  unfold spec_ValidMeta.l0
  rw [if_pos (by omega), if_pos (by omega), if_pos (by omega), rdOf_drop hd, ValidIdent_f c (by omega) k (by omega), w1 i (by omega), ih]
  simp only [Option.bind_some, List.all_cons]
  by_cases h1 : identL (tl c) = true
  ·
   rw [if_pos h1, h1]; rfl
  ·
   rw [if_neg h1, Bool.eq_false_iff.2 h1]; rfl
theorem ValidMeta_f (a : ByteArray) (ha : a.size < 1000000000000) (k : Nat) (hk : 2 * a.size + 3 < k) : spec_ValidMeta.f k a = some (validMeta a) := by
 have hsz : (tl a).length = a.size := (size_data a).symm
 have l1 := splitD_length (tl a)
 unfold spec_ValidMeta.f
 rw [Identifiers_f a (by omega) k (by omega), Option.bind_some]
 have := ValidMeta_l0 (bs (splitD (tl a))) a.size (by omega) (by rw [← hsz]; exact bs_size (splitD_mem (tl a))) (by rw [bs_length]; omega) (bs (splitD (tl a))) 0 k rfl (by rw [bs_length]; omega)
 rw [all_bs] at this
 exact this
theorem svShort2 (x y : ByteArray) (k : Nat) (hk : 3 ≤ k) : laws_svShort.f k [x, y] = some (decide (x.size ≤ 65536) && decide (y.size ≤ 65536)) := by
 obtain ⟨k, rfl⟩ : ∃ k', k = k' + 3 := ⟨k - 3, by omega⟩
 have e2 : wrap64 (0 + 1) = 1 := by unfold wrap64; omega
 have e4 : wrap64 (1 + 1) = 2 := by unfold wrap64; omega
 have e3 : (([x, y].length : Nat) : Int) = 2 := rfl
 unfold laws_svShort.f
 unfold laws_svShort.l0
 rw [e3, if_pos (by omega), if_pos (by omega), if_pos (by omega), e2]
 have r0 : rdOf ByteArray.empty [x, y] 0 = x := rfl
 have r1 : rdOf ByteArray.empty [x, y] 1 = y := rfl
 rw [r0]
 by_cases h : (x.size : Int) > 65536
 ·
  rw [if_pos h, decide_eq_false (by omega)]; rfl
 ·
  rw [if_neg h, decide_eq_true (by omega), Bool.true_and]
  unfold laws_svShort.l0
  rw [e3, if_pos (by omega), if_pos (by omega), if_pos (by omega), e4, r1]
  by_cases h2 : (y.size : Int) > 65536
  ·
   rw [if_pos h2, decide_eq_false (by omega)]
  ·
   rw [if_neg h2, decide_eq_true (by omega)]
   unfold laws_svShort.l0
   rw [e3, if_neg (by omega)]
/-- Valid parts. -/
def goodV (u v : ByteArray) : Bool := ((tl u).isEmpty || (validPre u && smallPre u)) && ((tl v).isEmpty || validMeta v)
theorem Good_f (a b c : Int) (u v : ByteArray) (hu : u.size ≤ 65536) (hv : v.size ≤ 65536) (k : Nat) (hk : 200000 < k) : spec_Good.f k a b c u v = some (goodV u v) := by
 have emp : ∀ x : ByteArray, x.toList = [] ↔ (tl x).isEmpty = true := by
  intro x; rw [ByteArray.toList_eq]; show tl x = [] ↔ _; cases tl x <;> simp
 unfold spec_Good.f goodV
 rw [ValidMeta_f v (by omega) k (by omega), ValidPre_f u (by omega) k (by omega), SmallPre_f u (by omega) k (by omega)]
 simp only [Option.bind_some, emp]
 cases (tl u).isEmpty <;> cases (tl v).isEmpty <;> cases validPre u <;> cases smallPre u <;> cases validMeta v <;> rfl
/-- A version of short, valid parts. -/
def goodS (s : S29) : Bool := decide (s.f3.size ≤ 65536) && decide (s.f4.size ≤ 65536) && goodV s.f3 s.f4
theorem svGood_l0 (xs : List S29) (hl : xs.length < 8796093022208) : ∀ (rest : List S29) (i k : Nat), xs.drop i = rest → rest.length + 200001 < k →
  laws_svGood.l0 k xs (xs.length : Int) (i : Int) = some (rest.all goodS)
 | [], i, k, hd, hk => by
  obtain ⟨k, rfl⟩ : ∃ k', k = k' + 1 := ⟨k - 1, by omega⟩
  have := drop_nil hd
  unfold laws_svGood.l0
  rw [if_neg (by omega)]; rfl
 | c :: r, i, k, hd, hk => by
  obtain ⟨k, rfl⟩ : ∃ k', k = k' + 1 := ⟨k - 1, by omega⟩
  have hlt := drop_lt hd
  have hk' : r.length + 200001 < k := by simp at hk; omega
  have ih := svGood_l0 xs hl r (i + 1) k (drop_succ hd) hk'
  have hr : rd_T29 xs (i : Int) = c := rdOf_drop hd
  unfold laws_svGood.l0
  rw [if_pos (by omega), if_pos (by omega), if_pos (by omega), hr, svShort2 _ _ k (by omega), w1 i (by omega), ih]
  simp only [Option.bind_some, List.all_cons]
  unfold goodS
  by_cases h1 : c.f3.size ≤ 65536 ∧ c.f4.size ≤ 65536
  ·
   rw [decide_eq_true h1.1, decide_eq_true h1.2, Good_f _ _ _ _ _ h1.1 h1.2 k (by omega)]
   simp only [Bool.and_self, if_true, Option.bind_some, Bool.true_and]
   cases goodV c.f3 c.f4 <;> rfl
  ·
   have : (decide (c.f3.size ≤ 65536) && decide (c.f4.size ≤ 65536)) = false := by
    rw [Bool.and_eq_false_iff, decide_eq_false_iff_not, decide_eq_false_iff_not]; omega
   rw [this]; rfl
theorem svGood_f (xs : List S29) (hl : xs.length < 100) (k : Nat) (hk : 200200 < k) : laws_svGood.f k xs = some (xs.all goodS) := by
 unfold laws_svGood.f
 exact svGood_l0 xs (by omega) xs 0 k rfl (by omega)
end Go.Proofs.YtalpehfjjidfhaaDoor.MP
