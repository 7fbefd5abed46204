/- The plain law of the functions that read a version's text, for the print MS: no program in sight. -/
import Derived.Test.YtalpehfjjidfhaaDoorHandM
import Derived.Test.YtalpehfjjidfhaaDoorPreHead
namespace Go.Proofs.YtalpehfjjidfhaaDoor.MS
open Go Go.RowKit Go.Proofs.YtalpehfjjidfhaaDoorW.PrintWords Sv Hand
open Go.Proofs.YtalpehfjjidfhaaDoor.MA (tl dot identB identL digsL okPre validPre toList_ne all_bs bs_size)
set_option linter.unusedVariables false
set_option linter.unusedSimpArgs false
theorem zzIndex_l0 (a : ByteArray) (ha : a.size < 4611686018427387900) : ∀ (rest : List UInt8) (i k : Nat), a.data.toList.drop i = rest → i ≤ a.size → rest.length < k →
  semver_zzIndex.l0 k a dot (i : Int) = some (match firstDot rest with | some m => ((i + m : Nat) : Int) | none => -1)
 | [], i, k, hd, hi, hk => by
  obtain ⟨k, rfl⟩ : ∃ k', k = k' + 1 := ⟨k - 1, by omega⟩
  have := drop_nil hd
  rw [← size_data] at this
  have e : i = a.size := by omega
  subst e
  unfold semver_zzIndex.l0
  have e1 : wrap64 ((a.size : Int) + ((dot : ByteArray).size : Int)) = ((a.size + 1 : Nat) : Int) := w1 _ (by omega)
  rw [e1, if_neg (by omega)]
  rfl
 | c :: r, i, k, hd, hi, hk => by
  obtain ⟨k, rfl⟩ : ∃ k', k = k' + 1 := ⟨k - 1, by omega⟩
  have hlt := drop_lt hd
  rw [← size_data] at hlt
  unfold semver_zzIndex.l0
  have e1 : wrap64 ((i : Int) + ((dot : ByteArray).size : Int)) = ((i + 1 : Nat) : Int) := w1 _ (by omega)
  rw [e1, if_pos (by omega), if_pos (by omega), if_pos (by omega)]
  have e2 : (a.extract (i : Int).toNat ((i + 1 : Nat) : Int).toNat).toList = [c] := by
   rw [ByteArray.toList_eq, extract_data, Int.toNat_natCast, Int.toNat_natCast, hd]
   simp
  have e3 : (dot : ByteArray).toList = [46] := by rw [ByteArray.toList_eq]
  rw [e2, e3]
  by_cases hc : c = 46
  ·
   subst hc
   rw [if_pos rfl]
   simp [firstDot]
  ·
   rw [if_neg (by simpa using hc), w1 i (by omega), zzIndex_l0 a ha r (i + 1) k (drop_succ hd) (by omega) (by simp at hk; omega)]
   simp only [firstDot, if_neg hc]
   cases firstDot r with
   | none => rfl
   | some m => simp only [Option.map_some]; congr 2; omega
theorem zzIndex_f (a : ByteArray) (ha : a.size < 4611686018427387900) (k : Nat) (hk : a.size < k) :
  semver_zzIndex.f k a dot = some (match firstDot a.data.toList with | some m => (m : Int) | none => -1) := by
 have := zzIndex_l0 a ha a.data.toList 0 k (by simp) (by omega) (by rw [← size_data]; exact hk)
 unfold semver_zzIndex.f
 simp only [Nat.zero_add] at this
 exact this
theorem zzSplit_l0 : ∀ (n : Nat) (a : ByteArray) (acc : List ByteArray) (k : Nat), a.size ≤ n → a.size + 1 < k → acc.length + a.size < 8796093022208 →
  semver_zzSplit.l0 k a dot acc = some (acc ++ bs (splitD a.data.toList)) := by
 intro n
 induction n using Nat.strongRecOn with
 | ind n ih =>
  intro a acc k hn hk hc
  obtain ⟨k, rfl⟩ : ∃ k', k = k' + 1 := ⟨k - 1, by omega⟩
  unfold semver_zzSplit.l0
  rw [zzIndex_f a (by omega) k (by omega)]
  simp only [Option.bind_some]
  have hS := splitD_first a.data.toList
  cases e : firstDot a.data.toList with
  | none =>
   rw [e] at hS
   simp only
   rw [if_pos (by omega), if_pos (by omega), hS.1]
   simp only [bs, List.map_cons, List.map_nil, mk_toList]
  | some m =>
   rw [e] at hS
   simp only
   obtain ⟨h1, h2, _, _⟩ := hS
   rw [← size_data] at h2
   have e1 : wrap64 ((m : Int) + ((dot : ByteArray).size : Int)) = ((m + 1 : Nat) : Int) := w1 _ (by omega)
   rw [if_neg (by omega), if_pos (by omega), if_pos (by omega), if_pos (by omega), e1, if_pos (by omega), if_pos (by omega)]
   rw [Int.toNat_natCast, Int.toNat_natCast]
   have e2 : (a.extract (m + 1) a.size).data.toList = a.data.toList.drop (m + 1) := by
    rw [extract_data, List.take_of_length_le]
    rw [List.length_drop, ← size_data]
    exact Nat.le_refl _
   have e3 : (a.extract (m + 1) a.size).size = a.size - (m + 1) := by
    rw [size_data, e2, List.length_drop, ← size_data]
   rw [ih (a.size - (m + 1)) (by omega) _ _ k (by omega) (by omega) (by simp; omega), h1, e2]
   have e4 : a.extract 0 m = ⟨(a.data.toList.take m).toArray⟩ := bytes_ext (by rw [extract_data]; simp)
   rw [e4]
   simp [bs]
theorem zzSplit_f (a : ByteArray) (k : Nat) (hk : a.size + 1 < k) (hc : a.size < 8796093022208) :
  semver_zzSplit.f k a dot = some (bs (splitD (tl a))) := by
 unfold semver_zzSplit.f
 rw [zzSplit_l0 a.size a [] k (Nat.le_refl _) hk (by simpa using hc)]
 rfl

theorem isDigit_f (c : UInt8) : spec_isDigit.f (c.toNat : Int) = some (dig c) := by
  unfold spec_isDigit.f dig
  split
  · rename_i h
    congr 1
    rw [Bool.eq_iff_iff, decide_eq_true_eq, decide_eq_true_eq]; omega
  · rename_i h
    congr 1
    symm
    rw [decide_eq_false_iff_not]; omega
theorem isIdent_f (c : UInt8) : spec_isIdent.f (c.toNat : Int) = some (identB c) := by
  unfold spec_isIdent.f
  rw [isDigit_f, Option.bind_some]
  unfold identB
  by_cases h : dig c = true
  · rw [if_pos h, h]; rfl
  · rw [if_neg h, Bool.eq_false_iff.2 h, Bool.false_or]
    repeat' split
    all_goals
      congr 1
      rw [Bool.eq_iff_iff]
      simp only [Bool.or_eq_true, decide_eq_true_eq, beq_iff_eq, eq_self, true_iff]
      omega
theorem Digits_l0 (a : ByteArray) (ha : a.size < 4611686018427387900) : ∀ (rest : List UInt8) (i k : Nat), a.data.toList.drop i = rest → i ≤ a.size → rest.length < k →
    spec_Digits.l0 k a (i : Int) = some (rest.all dig && (a.toList != []))
  | [], i, k, hd, hi, hk => by
    obtain ⟨k, rfl⟩ : ∃ k', k = k' + 1 := ⟨k - 1, by omega⟩
    have := drop_nil hd
    rw [← size_data] at this
    unfold spec_Digits.l0
    rw [if_neg (by omega)]
    simp
  | c :: r, i, k, hd, hi, hk => by
    obtain ⟨k, rfl⟩ : ∃ k', k = k' + 1 := ⟨k - 1, by omega⟩
    have hlt := drop_lt hd
    rw [← size_data] at hlt
    unfold spec_Digits.l0
    rw [if_pos (by omega), if_pos (by omega), bt_drop hd, isDigit_f, Option.bind_some, w1 i (by omega), Digits_l0 a ha r (i + 1) k (drop_succ hd) (by omega) (by simp at hk; omega)]
    by_cases h : dig c = true
    · rw [if_pos h, List.all_cons, h, Bool.true_and]
    · rw [if_neg h, List.all_cons, Bool.eq_false_iff.2 h]; rfl
theorem ValidIdent_l0 (a : ByteArray) (ha : a.size < 4611686018427387900) : ∀ (rest : List UInt8) (i k : Nat), a.data.toList.drop i = rest → i ≤ a.size → rest.length < k →
    spec_ValidIdent.l0 k a (i : Int) = some (rest.all identB && (a.toList != []))
  | [], i, k, hd, hi, hk => by
    obtain ⟨k, rfl⟩ : ∃ k', k = k' + 1 := ⟨k - 1, by omega⟩
    have := drop_nil hd
    rw [← size_data] at this
    unfold spec_ValidIdent.l0
    rw [if_neg (by omega)]
    simp
  | c :: r, i, k, hd, hi, hk => by
    obtain ⟨k, rfl⟩ : ∃ k', k = k' + 1 := ⟨k - 1, by omega⟩
    have hlt := drop_lt hd
    rw [← size_data] at hlt
    unfold spec_ValidIdent.l0
    rw [if_pos (by omega), if_pos (by omega), bt_drop hd, isIdent_f, Option.bind_some, w1 i (by omega), ValidIdent_l0 a ha r (i + 1) k (drop_succ hd) (by omega) (by simp at hk; omega)]
    by_cases h : identB c = true
    · rw [if_pos h, List.all_cons, h, Bool.true_and]
    · rw [if_neg h, List.all_cons, Bool.eq_false_iff.2 h]; rfl

theorem Digits_f (a : ByteArray) (ha : a.size < 4611686018427387900) (k : Nat) (hk : a.size < k) : spec_Digits.f k a = some (digsL (tl a)) := by
  have := Digits_l0 a ha (tl a) 0 k (by simp) (by omega) (by rw [← size_data]; exact hk)
  unfold spec_Digits.f digsL
  rw [toList_ne] at this
  exact this
theorem ValidIdent_f (a : ByteArray) (ha : a.size < 4611686018427387900) (k : Nat) (hk : a.size < k) : spec_ValidIdent.f k a = some (identL (tl a)) := by
  have := ValidIdent_l0 a ha (tl a) 0 k (by simp) (by omega) (by rw [← size_data]; exact hk)
  unfold spec_ValidIdent.f identL
  rw [toList_ne] at this
  exact this
theorem Identifiers_l0 (a : ByteArray) (ha : a.size < 8796093022200) : ∀ (rest : List UInt8) (i : Nat) (acc : List ByteArray) (s k : Nat), a.data.toList.drop i = rest → s ≤ i → i ≤ a.size → (46 : UInt8) ∉ (a.data.toList.drop s).take (i - s) → acc.length ≤ i → rest.length < k →
    spec_Identifiers.l0 k a acc (s : Int) (i : Int) = some (acc ++ bs (splitD (a.data.toList.drop s)))
  | [], i, acc, s, k, hd, hs, hi, hn, hc, hk => by
    obtain ⟨k, rfl⟩ : ∃ k', k = k' + 1 := ⟨k - 1, by omega⟩
    have := drop_nil hd
    rw [← size_data] at this
    have e : i = a.size := by omega
    subst e
    have e1 : (a.data.toList.drop s).take (a.size - s) = a.data.toList.drop s := by
      rw [List.take_of_length_le]; rw [List.length_drop, ← size_data]; exact Nat.le_refl _
    rw [e1] at hn
    unfold spec_Identifiers.l0
    rw [if_neg (by omega), if_pos (by omega), if_pos (by omega), if_pos (by omega), splitD_none hn, Int.toNat_natCast]
    congr 2
    have : a.extract s a.size = ⟨(a.data.toList.drop s).toArray⟩ := bytes_ext (by rw [extract_data, e1])
    rw [this]; rfl
  | c :: r, i, acc, s, k, hd, hs, hi, hn, hc, hk => by
    obtain ⟨k, rfl⟩ : ∃ k', k = k' + 1 := ⟨k - 1, by omega⟩
    have hlt := drop_lt hd
    rw [← size_data] at hlt
    have hk' : r.length < k := by simp at hk; omega
    unfold spec_Identifiers.l0
    rw [if_pos (by omega), if_pos (by omega), bt_drop hd]
    have e1 : a.data.toList.drop s = (a.data.toList.drop s).take (i - s) ++ c :: r := by
      conv => lhs; rw [← List.take_append_drop (i - s) (a.data.toList.drop s)]
      rw [List.drop_drop, show s + (i - s) = i by omega, hd]
    by_cases h : c = 46
    · subst h
      rw [if_pos (by rfl), if_pos (by omega), if_pos (by omega), if_pos (by omega), if_pos (by omega), w1 i (by omega)]
      rw [Identifiers_l0 a ha r (i + 1) _ (i + 1) k (drop_succ hd) (Nat.le_refl _) (by omega) (by simp) (by simp; omega) hk']
      rw [e1, splitD_at hn, drop_succ hd, Int.toNat_natCast, Int.toNat_natCast]
      have : a.extract s i = ⟨((a.data.toList.drop s).take (i - s)).toArray⟩ := bytes_ext (by rw [extract_data])
      rw [this]
      simp [bs]
    · have hcn : ¬ (c.toNat : Int) = 46 := by
        intro e
        exact h (UInt8.toNat_inj.1 (by show c.toNat = 46; omega))
      rw [if_neg hcn, w1 i (by omega)]
      refine Identifiers_l0 a ha r (i + 1) acc s k (drop_succ hd) (by omega) (by omega) ?_ (by omega) hk'
      have e2 : (a.data.toList.drop s).take (i + 1 - s) = (a.data.toList.drop s).take (i - s) ++ [c] := by
        have e3 : i + 1 - s = (i - s) + 1 := by omega
        rw [e3, List.take_add_one]
        congr 1
        have : (a.data.toList.drop s)[i - s]? = some c := by
          rw [List.getElem?_drop, show s + (i - s) = i by omega]
          have := congrArg List.head? hd
          rwa [List.head?_drop] at this
        rw [this]; rfl
      rw [e2, List.mem_append, not_or]
      exact ⟨hn, by simp; exact fun e => h e.symm⟩
theorem Identifiers_f (a : ByteArray) (ha : a.size < 8796093022200) (k : Nat) (hk : a.size < k) : spec_Identifiers.f k a = some (bs (splitD (tl a))) := by
  have := Identifiers_l0 a ha (tl a) 0 [] 0 k (by simp) (Nat.le_refl _) (by omega) (by simp) (by simp) (by rw [← size_data]; exact hk)
  unfold spec_Identifiers.f
  simpa using this
theorem ValidPre_l0 (xs : List ByteArray) (M : Nat) (hM : M < 8796093022200) (hx : ∀ x ∈ xs, x.size ≤ M) (hl : xs.length < 8796093022208) : ∀ (rest : List ByteArray) (i k : Nat), xs.drop i = rest → rest.length + M < k →
    spec_ValidPre.l0 k xs (xs.length : Int) (i : Int) = some (rest.all fun x => okPre (tl x))
  | [], i, k, hd, hk => by
    obtain ⟨k, rfl⟩ : ∃ k', k = k' + 1 := ⟨k - 1, by omega⟩
    have := drop_nil hd
    unfold spec_ValidPre.l0
    rw [if_neg (by omega)]; rfl
  | c :: r, i, k, hd, hk => by
    obtain ⟨k, rfl⟩ : ∃ k', k = k' + 1 := ⟨k - 1, by omega⟩
    have hlt := drop_lt hd
    have hc : c.size ≤ M := hx c (by rw [← List.take_append_drop i xs, hd]; simp)
    have hk' : r.length + M < k := by simp at hk; omega
    have ih := ValidPre_l0 xs M hM hx hl r (i + 1) k (drop_succ hd) hk'
    unfold spec_ValidPre.l0
    rw [if_pos (by omega), if_pos (by omega), if_pos (by omega), rdOf_drop hd, ValidIdent_f c (by omega) k (by omega), Digits_f c (by omega) k (by omega), w1 i (by omega), ih]
    simp only [Option.bind_some, List.all_cons]
    unfold okPre
    by_cases h1 : identL (tl c) = true
    · rw [if_pos h1, h1]
      by_cases h2 : digsL (tl c) = true
      · rw [if_pos h2, h2]
        have hsz : (tl c).length = c.size := (size_data c).symm
        by_cases h3 : (c.size : Int) > 1
        · rw [if_pos h3, if_pos (by omega)]
          cases e : tl c with
          | nil => rw [e] at hsz; simp at hsz; omega
          | cons d q =>
            have eb : bt c ((0 : Nat) : Int) = (d.toNat : Int) := bt_drop (r := q) (by rw [List.drop_zero]; exact e)
            have hq : ¬ (q.length + 1 ≤ 1) := by rw [e] at hsz; simp at hsz; omega
            by_cases h4 : d = 48
            · subst h4
              rw [if_pos (by exact eb)]
              simp [plain, hq]
            · rw [if_neg (by
                intro e'
                apply h4
                have e2 : ((d.toNat : Int)) = 48 := by rw [← eb]; exact e'
                exact UInt8.toNat_inj.1 (by show d.toNat = 48; omega))]
              simp [plain, h4]
        · rw [if_neg h3]
          have : plain (tl c) = true := by simp [plain, hsz]; left; omega
          rw [this]; rfl
      · rw [if_neg h2, Bool.eq_false_iff.2 h2]; rfl
    · rw [if_neg h1, Bool.eq_false_iff.2 h1]; rfl
theorem ValidPre_f (a : ByteArray) (ha : a.size < 1000000000000) (k : Nat) (hk : 2 * a.size + 3 < k) : spec_ValidPre.f k a = some (validPre a) := by
  have hsz : (tl a).length = a.size := (size_data a).symm
  have l1 := splitD_length (tl a)
  unfold spec_ValidPre.f
  rw [Identifiers_f a (by omega) k (by omega), Option.bind_some]
  have := ValidPre_l0 (bs (splitD (tl a))) a.size (by omega) (by rw [← hsz]; exact bs_size (splitD_mem (tl a))) (by rw [bs_length]; omega) (bs (splitD (tl a))) 0 k rfl (by rw [bs_length]; omega)
  rw [all_bs] at this
  exact this
def validMeta (a : ByteArray) : Bool := (splitD (tl a)).all identL
theorem ValidMeta_l0 (xs : List ByteArray) (M : Nat) (hM : M < 8796093022200) (hx : ∀ x ∈ xs, x.size ≤ M) (hl : xs.length < 8796093022208) : ∀ (rest : List ByteArray) (i k : Nat), xs.drop i = rest → rest.length + M < k →
    spec_ValidMeta.l0 k xs (xs.length : Int) (i : Int) = some (rest.all fun x => identL (tl x))
  | [], i, k, hd, hk => by
    obtain ⟨k, rfl⟩ : ∃ k', k = k' + 1 := ⟨k - 1, by omega⟩
    have := drop_nil hd
    unfold spec_ValidMeta.l0
    rw [if_neg (by omega)]; rfl
  | c :: r, i, k, hd, hk => by
    obtain ⟨k, rfl⟩ : ∃ k', k = k' + 1 := ⟨k - 1, by omega⟩
    have hlt := drop_lt hd
    have hc : c.size ≤ M := hx c (by rw [← List.take_append_drop i xs, hd]; simp)
    have hk' : r.length + M < k := by simp at hk; omega
    have ih := ValidMeta_l0 xs M hM hx hl r (i + 1) k (drop_succ hd) hk'
    unfold spec_ValidMeta.l0
    rw [if_pos (by omega), if_pos (by omega), if_pos (by omega), rdOf_drop hd, ValidIdent_f c (by omega) k (by omega), w1 i (by omega), ih]
    simp only [Option.bind_some, List.all_cons]
    by_cases h1 : identL (tl c) = true
    · rw [if_pos h1, h1]; rfl
    · rw [if_neg h1, Bool.eq_false_iff.2 h1]; rfl
theorem ValidMeta_f (a : ByteArray) (ha : a.size < 1000000000000) (k : Nat) (hk : 2 * a.size + 3 < k) : spec_ValidMeta.f k a = some (validMeta a) := by
  have hsz : (tl a).length = a.size := (size_data a).symm
  have l1 := splitD_length (tl a)
  unfold spec_ValidMeta.f
  rw [Identifiers_f a (by omega) k (by omega), Option.bind_some]
  have := ValidMeta_l0 (bs (splitD (tl a))) a.size (by omega) (by rw [← hsz]; exact bs_size (splitD_mem (tl a))) (by rw [bs_length]; omega) (bs (splitD (tl a))) 0 k rfl (by rw [bs_length]; omega)
  rw [all_bs] at this
  exact this
/-- A search for one byte. -/
theorem idx_l0 (c0 : UInt8) (a : ByteArray) (ha : a.size < 4611686018427387900) : ∀ (rest : List UInt8) (i k : Nat), a.data.toList.drop i = rest → i ≤ a.size → rest.length < k →
  semver_zzIndex.l0 k a ⟨#[c0]⟩ (i : Int) = some (match cut c0 rest with | some p => ((i + p.1.length : Nat) : Int) | none => -1)
 | [], i, k, hd, hi, hk => by
  obtain ⟨k, rfl⟩ : ∃ k', k = k' + 1 := ⟨k - 1, by omega⟩
  have := drop_nil hd
  rw [← size_data] at this
  have e : i = a.size := by omega
  subst e
  unfold semver_zzIndex.l0
  have e1 : wrap64 ((a.size : Int) + (((⟨#[c0]⟩ : ByteArray).size : Nat) : Int)) = ((a.size + 1 : Nat) : Int) := w1 _ (by omega)
  rw [e1, if_neg (by omega)]
  rfl
 | c :: r, i, k, hd, hi, hk => by
  obtain ⟨k, rfl⟩ : ∃ k', k = k' + 1 := ⟨k - 1, by omega⟩
  have hlt := drop_lt hd
  rw [← size_data] at hlt
  unfold semver_zzIndex.l0
  have e1 : wrap64 ((i : Int) + (((⟨#[c0]⟩ : ByteArray).size : Nat) : Int)) = ((i + 1 : Nat) : Int) := w1 _ (by omega)
  rw [e1, if_pos (by omega), if_pos (by omega), if_pos (by omega)]
  have e2 : (a.extract (i : Int).toNat ((i + 1 : Nat) : Int).toNat).toList = [c] := by
   rw [ByteArray.toList_eq, extract_data, Int.toNat_natCast, Int.toNat_natCast, hd]
   simp
  have e3 : (⟨#[c0]⟩ : ByteArray).toList = [c0] := by rw [ByteArray.toList_eq]
  rw [e2, e3]
  by_cases hc : c = c0
  · subst hc
    rw [if_pos rfl]
    simp [cut]
  · rw [if_neg (by simpa using hc), w1 i (by omega), idx_l0 c0 a ha r (i + 1) k (drop_succ hd) (by omega) (by simp at hk; omega)]
    simp only [cut, if_neg hc]
    cases cut c0 r with
    | none => rfl
    | some m => simp only [Option.map_some, List.length_cons]; congr 2; omega
theorem idx_f (c0 : UInt8) (a : ByteArray) (ha : a.size < 4611686018427387900) (k : Nat) (hk : a.size < k) :
  semver_zzIndex.f k a ⟨#[c0]⟩ = some (match cut c0 (tl a) with | some p => (p.1.length : Int) | none => -1) := by
 have := idx_l0 c0 a ha a.data.toList 0 k (by simp) (by omega) (by rw [← size_data]; exact hk)
 unfold semver_zzIndex.f
 simp only [Nat.zero_add] at this
 exact this
theorem contains_f (c0 : UInt8) (a : ByteArray) (ha : a.size < 4611686018427387900) (k : Nat) (hk : a.size < k) :
  semver_zzContains.f k a ⟨#[c0]⟩ = some (has c0 (tl a)) := by
  unfold semver_zzContains.f has
  rw [idx_f c0 a ha k hk]
  cases cut c0 (tl a) with
  | none => rfl
  | some p => simp
def B (l : List UInt8) : ByteArray := ⟨l.toArray⟩
theorem B_tl (a : ByteArray) : B (tl a) = a := mk_toList a
theorem tl_B (l : List UInt8) : tl (B l) = l := by simp [B]
theorem B_size (l : List UInt8) : (B l).size = l.length := by simp [B, ByteArray.size]
/-- One round of the split. -/
theorem splitN_go (c0 : UInt8) (a : ByteArray) (ha : a.size < 8796093022208) (n : Int) (acc : List ByteArray) (k : Nat) (hk : a.size < k) (hn : (acc.length : Int) < wrap64 (n - 1)) (hac : acc.length < 1000) {p q : List UInt8} (hc : cut c0 (tl a) = some (p, q)) :
  semver_zzSplitN.l0 (k + 1) a ⟨#[c0]⟩ n acc = semver_zzSplitN.l0 k (B q) ⟨#[c0]⟩ n (acc ++ [B p]) := by
  obtain ⟨h1, h2⟩ := cut_some hc
  have hs : a.size = p.length + 1 + q.length := by rw [size_data, show a.data.toList = _ from h1]; simp; omega
  conv => lhs; unfold semver_zzSplitN.l0
  rw [if_pos hn, idx_f c0 a (by omega) k hk, hc]
  simp only [Option.bind_some]
  have e1 : wrap64 ((p.length : Int) + (((⟨#[c0]⟩ : ByteArray).size : Nat) : Int)) = ((p.length + 1 : Nat) : Int) := w1 _ (by omega)
  rw [if_neg (by omega), if_pos (by omega), if_pos (by omega), if_pos (by omega), e1, if_pos (by omega), if_pos (by omega), Int.toNat_natCast, Int.toNat_natCast]
  have e2 : a.extract (p.length + 1) a.size = B q := bytes_ext (by
    rw [extract_data, show (B q).data.toList = q from tl_B q, List.take_of_length_le (by rw [List.length_drop, ← size_data]; exact Nat.le_refl _)]
    rw [show a.data.toList = p ++ c0 :: q from h1]
    simp)
  have e3 : a.extract 0 p.length = B p := bytes_ext (by
    rw [extract_data, show (B p).data.toList = p from tl_B p, show a.data.toList = p ++ c0 :: q from h1]
    simp)
  rw [e2, e3]
theorem splitN_end (c0 : UInt8) (a : ByteArray) (ha : a.size < 8796093022208) (n : Int) (acc : List ByteArray) (k : Nat) (hk : a.size < k) (hac : acc.length < 1000) (h : ¬ (acc.length : Int) < wrap64 (n - 1) ∨ cut c0 (tl a) = none) :
  semver_zzSplitN.l0 (k + 1) a ⟨#[c0]⟩ n acc = some (acc ++ [a]) := by
  conv => lhs; unfold semver_zzSplitN.l0
  by_cases hn : (acc.length : Int) < wrap64 (n - 1)
  · rcases h with h | h
    · exact absurd hn h
    rw [if_pos hn, idx_f c0 a (by omega) k hk, h]
    simp only [Option.bind_some]
    rw [if_pos (by omega), if_pos (by omega)]
  · rw [if_neg hn, if_pos (by omega)]
theorem w21 : wrap64 (2 - 1) = 1 := (IntWalk.wrap64_in _ (by omega)).trans rfl
theorem w31 : wrap64 (3 - 1) = 2 := (IntWalk.wrap64_in _ (by omega)).trans rfl
theorem split2 (c0 : UInt8) (a : ByteArray) (ha : a.size < 8796093022208) (k : Nat) (hk : a.size + 1 < k) {p q : List UInt8} (hc : cut c0 (tl a) = some (p, q)) : semver_zzSplitN.f k a ⟨#[c0]⟩ 2 = some [B p, B q] := by
  obtain ⟨k, rfl⟩ : ∃ k', k = k' + 2 := ⟨k - 2, by omega⟩
  have h := (cut_some hc).1
  have hs : a.size = p.length + 1 + q.length := by rw [size_data, show a.data.toList = _ from h]; simp; omega
  unfold semver_zzSplitN.f
  rw [splitN_go c0 a ha 2 [] (k + 1) (by omega) (by rw [w21]; decide) (by simp) hc]
  rw [splitN_end c0 (B q) (by rw [B_size]; omega) 2 _ k (by rw [B_size]; omega) (by simp) (Or.inl (by rw [w21]; simp))]
  rfl
def dots (l : List UInt8) : List ByteArray := match cut 46 l with
  | none => [B l]
  | some (p, r) => match cut 46 r with
    | none => [B p, B r]
    | some (q, s) => [B p, B q, B s]
theorem split3 (a : ByteArray) (ha : a.size < 8796093022208) (k : Nat) (hk : a.size + 2 < k) : semver_zzSplitN.f k a ⟨#[46]⟩ 3 = some (dots (tl a)) := by
  obtain ⟨k, rfl⟩ : ∃ k', k = k' + 3 := ⟨k - 3, by omega⟩
  unfold semver_zzSplitN.f dots
  cases hc : cut 46 (tl a) with
  | none =>
    rw [splitN_end 46 a ha 3 [] (k + 2) (by omega) (by simp) (Or.inr hc), B_tl]; rfl
  | some pr =>
    obtain ⟨p, r⟩ := pr
    have h := (cut_some hc).1
    have hs : a.size = p.length + 1 + r.length := by rw [size_data, show a.data.toList = _ from h]; simp; omega
    rw [splitN_go 46 a ha 3 [] (k + 2) (by omega) (by rw [w31]; decide) (by simp) hc]
    cases hd : cut 46 r with
    | none =>
      rw [splitN_end 46 (B r) (by rw [B_size]; omega) 3 _ (k + 1) (by rw [B_size]; omega) (by simp) (Or.inr (by rw [tl_B]; exact hd))]
      show _ = some (match cut 46 r with | none => [B p, B r] | some (q, s) => [B p, B q, B s])
      rw [hd]; rfl
    | some qs =>
      obtain ⟨q, s⟩ := qs
      have h' := (cut_some hd).1
      have hs' : r.length = q.length + 1 + s.length := by rw [h']; simp; omega
      rw [splitN_go 46 (B r) (by rw [B_size]; omega) 3 _ (k + 1) (by rw [B_size]; omega) (by rw [w31]; simp) (by simp) (by rw [tl_B]; exact hd)]
      rw [splitN_end 46 (B s) (by rw [B_size]; omega) 3 _ k (by rw [B_size]; omega) (by simp) (Or.inl (by rw [w31]; simp))]
      show _ = some (match cut 46 r with | none => [B p, B r] | some (q, s) => [B p, B q, B s])
      rw [hd]; rfl
/-- A cut of a text at a byte, as the grammar's function makes it. -/
theorem cutAt_l0 (c0 : UInt8) (a : ByteArray) (ha : a.size < 4611686018427387900) : ∀ (rest : List UInt8) (i k : Nat), a.data.toList.drop i = rest → i ≤ a.size → rest.length < k →
  spec_cutAt.l0 k a (c0.toNat : Int) (i : Int) = some (match cut c0 rest with | some p => (B ((tl a).take i ++ p.1), B p.2, true) | none => (a, ⟨#[]⟩, false))
 | [], i, k, hd, hi, hk => by
  obtain ⟨k, rfl⟩ : ∃ k', k = k' + 1 := ⟨k - 1, by omega⟩
  have := drop_nil hd
  rw [← size_data] at this
  unfold spec_cutAt.l0
  rw [if_neg (by omega)]
  rfl
 | c :: r, i, k, hd, hi, hk => by
  obtain ⟨k, rfl⟩ : ∃ k', k = k' + 1 := ⟨k - 1, by omega⟩
  have hlt := drop_lt hd
  rw [← size_data] at hlt
  unfold spec_cutAt.l0
  rw [if_pos (by omega), if_pos (by omega), bt_drop hd]
  by_cases hc : c = c0
  · subst hc
    rw [if_pos rfl, if_pos (by omega), w1 i (by omega), if_pos (by omega), if_pos (by omega), Int.toNat_natCast, Int.toNat_natCast]
    simp only [cut, if_pos, List.append_nil]
    have e2 : a.extract (i + 1) a.size = B r := bytes_ext (by
      rw [extract_data, show (B r).data.toList = r from tl_B r, List.take_of_length_le (by rw [List.length_drop, ← size_data]; exact Nat.le_refl _)]
      exact drop_succ hd)
    have e3 : a.extract 0 i = B ((tl a).take i) := bytes_ext (by
      rw [extract_data, show (B ((tl a).take i)).data.toList = (tl a).take i from tl_B _]
      simp)
    rw [e2, e3]
  · rw [if_neg (by intro h; exact hc (UInt8.toNat_inj.1 (by omega))), w1 i (by omega), cutAt_l0 c0 a ha r (i + 1) k (drop_succ hd) (by omega) (by simp at hk; omega)]
    simp only [cut, if_neg hc]
    have ht : (tl a).take (i + 1) = (tl a).take i ++ [c] := by
      rw [List.take_add_one, ← List.head?_drop, show (tl a).drop i = c :: r from hd]; rfl
    cases cut c0 r with
    | none => rfl
    | some m => simp only [Option.map_some, ht, List.append_assoc, List.cons_append, List.nil_append]
theorem cutAt_f (c0 : UInt8) (a : ByteArray) (ha : a.size < 4611686018427387900) (k : Nat) (hk : a.size < k) :
  spec_cutAt.f k a (c0.toNat : Int) = some (B (core c0 (tl a)), B (tail c0 (tl a)), has c0 (tl a)) := by
 have := cutAt_l0 c0 a ha a.data.toList 0 k (by simp) (by omega) (by rw [← size_data]; exact hk)
 unfold spec_cutAt.f core tail has
 rw [show ((0 : Nat) : Int) = 0 from rfl] at this
 rw [this]
 show some (match cut c0 (tl a) with | some p => _ | none => _) = _
 cases cut c0 (tl a) with
 | none => simp only [B_tl]; rfl
 | some p => simp
/-- The number of digits. -/
theorem Number_l0 (a : ByteArray) (ha : a.size < 4611686018427387900) (hd9 : (tl a).all dig = true) : ∀ (rest : List UInt8) (i k acc : Nat), a.data.toList.drop i = rest → i ≤ a.size → rest.length < k → acc ≤ 18446744073709551615 →
  spec_Number.l0 k a (acc : Int) (i : Int) = some (if val acc rest ≤ 18446744073709551615 then ((val acc rest : Nat) : Int) else 0, decide (val acc rest ≤ 18446744073709551615))
 | [], i, k, acc, hd, hi, hk, hac => by
  obtain ⟨k, rfl⟩ : ∃ k', k = k' + 1 := ⟨k - 1, by omega⟩
  have := drop_nil hd
  rw [← size_data] at this
  unfold spec_Number.l0
  rw [if_neg (by omega), val_nil, if_pos hac, decide_eq_true hac]
 | c :: r, i, k, acc, hd, hi, hk, hac => by
  obtain ⟨k, rfl⟩ : ∃ k', k = k' + 1 := ⟨k - 1, by omega⟩
  have hlt := drop_lt hd
  rw [← size_data] at hlt
  have hc : dig c = true := List.all_eq_true.1 hd9 c (List.mem_of_mem_drop (show c ∈ (tl a).drop i by rw [show (tl a).drop i = c :: r from hd]; exact List.mem_cons_self))
  unfold dig at hc
  rw [decide_eq_true_eq] at hc
  unfold spec_Number.l0
  rw [if_pos (by omega), if_pos (by omega), bt_drop hd]
  have e1 : (((c.toNat : Int) - 48) % 256) = ((c.toNat - 48 : Nat) : Int) := by omega
  rw [e1, val_cons]
  have hge := val_ge r (acc * 10 + (c.toNat - 48))
  by_cases hb : acc * 10 + (c.toNat - 48) ≤ 18446744073709551615
  · have e2 : IntKind.u64.wrap (IntKind.u64.wrap ((acc : Int) * 10) + ((c.toNat - 48 : Nat) : Int)) = ((acc * 10 + (c.toNat - 48) : Nat) : Int) := by
      rw [IntKind.wrap_u64, IntKind.wrap_u64]; omega
    rw [if_neg (by omega), e2, w1 i (by omega), Number_l0 a ha hd9 r (i + 1) k _ (drop_succ hd) (by omega) (by simp at hk; omega) hb]
  · rw [if_pos (by omega), if_neg (by omega), decide_eq_false (by omega)]
theorem parseM_le (l : List UInt8) (acc u : Nat) (ha : acc ≤ 18446744073709551615) (h : Lib.parseUintM 18446744073709551615 acc l = .ok u) : u ≤ 18446744073709551615 := by
  induction l generalizing acc with
  | nil => rw [pm_nil] at h; injection h with h; omega
  | cons x l ih =>
    rw [pm_cons] at h
    by_cases h1 : 48 ≤ x.toNat ∧ x.toNat ≤ 57
    · rw [if_pos h1] at h
      by_cases h2 : 1844674407370955162 ≤ acc
      · rw [if_pos h2] at h; cases h
      · rw [if_neg h2] at h
        by_cases h3 : 18446744073709551615 < acc * 10 + (x.toNat - 48)
        · rw [if_pos h3] at h; cases h
        · rw [if_neg h3] at h
          exact ih _ (by omega) h
    · rw [if_neg h1] at h; cases h
theorem num_dig {l : List UInt8} (hd : l.all dig = true) (hne : l ≠ []) : num? l = if val 0 l ≤ 18446744073709551615 then some (val 0 l) else none := by
  unfold num?
  by_cases h : val 0 l ≤ 18446744073709551615
  · rw [parse_of hne hd h, if_pos h]
  · rw [if_neg h]
    cases e : Lib.parseUintB 64 l with
    | ok u =>
      exfalso
      apply h
      rw [← (parse_ok e).2.2]
      unfold Lib.parseUintB at e
      rw [if_neg hne, pow64] at e
      exact parseM_le l 0 u (by omega) e
    | _ => rfl
theorem Number_f (a : ByteArray) (ha : a.size < 4611686018427387900) (k : Nat) (hk : a.size < k) :
  spec_Number.f k a = some (match (if digsL (tl a) = true then num? (tl a) else none) with | some n => ((n : Int), true) | none => (0, false)) := by
  unfold spec_Number.f
  rw [Digits_f a ha k hk]
  simp only [Option.bind_some]
  cases hd : digsL (tl a) with
  | false => rfl
  | true =>
    rw [if_pos rfl, if_pos rfl]
    unfold digsL at hd
    simp only [Bool.and_eq_true, Bool.not_eq_true', List.isEmpty_eq_false_iff] at hd
    have := Number_l0 a ha hd.1 (tl a) 0 k 0 (by simp) (by omega) (by rw [← size_data]; exact hk) (by omega)
    rw [show ((0 : Nat) : Int) = 0 from rfl] at this
    rw [this, num_dig hd.1 hd.2]
    by_cases h : val 0 (tl a) ≤ 18446744073709551615
    · rw [if_pos h, if_pos h, decide_eq_true h]
    · rw [if_neg h, if_neg h, decide_eq_false h]
end Go.Proofs.YtalpehfjjidfhaaDoor.MS
