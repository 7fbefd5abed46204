/- The plain law of FnSemverPreHead: no program in sight. -/
import Derived.Test.YtalpehfjjidfhaaDoorMAx3
import Derived.Test.YtalpehfjjidfhaaDoorSplit
namespace Go.Proofs.YtalpehfjjidfhaaDoor.MA
open Go.RowKit Go.Proofs.YtalpehfjjidfhaaDoorW.PrintWords Go.Proofs.YtalpehfjjidfhaaDoor Sv
set_option linter.unusedVariables false
set_option linter.unusedSimpArgs false

abbrev dot : ByteArray := ⟨#[46]⟩
abbrev tl (x : ByteArray) : List UInt8 := x.data.toList
theorem zzIndex_l0 (a : ByteArray) (ha : a.size < 4611686018427387900) : ∀ (rest : List UInt8) (i k : Nat), a.data.toList.drop i = rest → i ≤ a.size → rest.length < k →
    semver_zzIndex.l0 k a dot (i : Int) = some (match firstDot rest with | some m => ((i + m : Nat) : Int) | none => -1)
  | [], i, k, hd, hi, hk => by
    obtain ⟨k, rfl⟩ : ∃ k', k = k' + 1 := ⟨k - 1, by omega⟩
    have := drop_nil hd
    rw [← size_data] at this
    have e : i = a.size := by omega
    subst e
    unfold semver_zzIndex.l0
    have e1 : wrap64 ((a.size : Int) + ((dot : ByteArray).size : Int)) = ((a.size + 1 : Nat) : Int) := w1 _ (by omega)
    rw [e1, if_neg (by omega)]
    rfl
  | c :: r, i, k, hd, hi, hk => by
    obtain ⟨k, rfl⟩ : ∃ k', k = k' + 1 := ⟨k - 1, by omega⟩
    have hlt := drop_lt hd
    rw [← size_data] at hlt
    unfold semver_zzIndex.l0
    have e1 : wrap64 ((i : Int) + ((dot : ByteArray).size : Int)) = ((i + 1 : Nat) : Int) := w1 _ (by omega)
    rw [e1, if_pos (by omega), if_pos (by omega), if_pos (by omega)]
    have e2 : (a.extract (i : Int).toNat ((i + 1 : Nat) : Int).toNat).toList = [c] := by
      rw [ByteArray.toList_eq, extract_data, Int.toNat_natCast, Int.toNat_natCast, hd]
      simp
    have e3 : (dot : ByteArray).toList = [46] := by rw [ByteArray.toList_eq]
    rw [e2, e3]
    by_cases hc : c = 46
    · subst hc
      rw [if_pos rfl]
      simp [firstDot]
    · rw [if_neg (by simpa using hc), w1 i (by omega), zzIndex_l0 a ha r (i + 1) k (drop_succ hd) (by omega) (by simp at hk; omega)]
      simp only [firstDot, if_neg hc]
      cases firstDot r with
      | none => rfl
      | some m => simp only [Option.map_some]; congr 2; omega
theorem zzIndex_f (a : ByteArray) (ha : a.size < 4611686018427387900) (k : Nat) (hk : a.size < k) :
    semver_zzIndex.f k a dot = some (match firstDot a.data.toList with | some m => (m : Int) | none => -1) := by
  have := zzIndex_l0 a ha a.data.toList 0 k (by simp) (by omega) (by rw [← size_data]; exact hk)
  unfold semver_zzIndex.f
  simp only [Nat.zero_add] at this
  exact this
theorem zzSplit_l0 : ∀ (n : Nat) (a : ByteArray) (acc : List ByteArray) (k : Nat), a.size ≤ n → a.size + 1 < k → acc.length + a.size < 8796093022208 →
    semver_zzSplit.l0 k a dot acc = some (acc ++ bs (splitD a.data.toList)) := by
  intro n
  induction n using Nat.strongRecOn with
  | ind n ih =>
    intro a acc k hn hk hc
    obtain ⟨k, rfl⟩ : ∃ k', k = k' + 1 := ⟨k - 1, by omega⟩
    unfold semver_zzSplit.l0
    rw [zzIndex_f a (by omega) k (by omega)]
    simp only [Option.bind_some]
    have hS := splitD_first a.data.toList
    cases e : firstDot a.data.toList with
    | none =>
      rw [e] at hS
      simp only
      rw [if_pos (by omega), if_pos (by omega), hS.1]
      simp only [bs, List.map_cons, List.map_nil, mk_toList]
    | some m =>
      rw [e] at hS
      simp only
      obtain ⟨h1, h2, _, _⟩ := hS
      rw [← size_data] at h2
      have e1 : wrap64 ((m : Int) + ((dot : ByteArray).size : Int)) = ((m + 1 : Nat) : Int) := w1 _ (by omega)
      rw [if_neg (by omega), if_pos (by omega), if_pos (by omega), if_pos (by omega), e1, if_pos (by omega), if_pos (by omega)]
      rw [Int.toNat_natCast, Int.toNat_natCast]
      have e2 : (a.extract (m + 1) a.size).data.toList = a.data.toList.drop (m + 1) := by
        rw [extract_data, List.take_of_length_le]
        rw [List.length_drop, ← size_data]
        exact Nat.le_refl _
      have e3 : (a.extract (m + 1) a.size).size = a.size - (m + 1) := by
        rw [size_data, e2, List.length_drop, ← size_data]
      rw [ih (a.size - (m + 1)) (by omega) _ _ k (by omega) (by omega) (by simp; omega), h1, e2]
      have e4 : a.extract 0 m = ⟨(a.data.toList.take m).toArray⟩ := bytes_ext (by rw [extract_data]; simp)
      rw [e4]
      simp [bs]
theorem zzSplit_f (a : ByteArray) (k : Nat) (hk : a.size + 1 < k) (hc : a.size < 8796093022208) :
    semver_zzSplit.f k a dot = some (bs (splitD (tl a))) := by
  unfold semver_zzSplit.f
  rw [zzSplit_l0 a.size a [] k (Nat.le_refl _) hk (by simpa using hc)]
  rfl

/-! ### The comparison of prereleases -/
theorem cmp_l0 (A B : List ByteArray) (hA : ∀ x ∈ A, x.size ≤ 281474976710656) (hB : ∀ x ∈ B, x.size ≤ 281474976710656)
    (na : A.length < 4611686018427387900) (nb : B.length < 4611686018427387900) (mx : Nat) (hmx : mx = max A.length B.length) :
    ∀ (d i k : Nat), i + d = mx → 2 * d + 1 ≤ k →
    semver_comparePrerelease.l0 k A B (A.length : Int) (B.length : Int) (mx : Int) (i : Int) = some (cmpParts ((A.drop i).map tl) ((B.drop i).map tl)) := by
  intro d
  induction d with
  | zero =>
    intro i k hi hk
    obtain ⟨k, rfl⟩ : ∃ k', k = k' + 1 := ⟨k - 1, by omega⟩
    unfold semver_comparePrerelease.l0
    rw [if_neg (by omega), List.drop_eq_nil_of_le (by omega), List.drop_eq_nil_of_le (by omega)]
    simp [cmpParts]
  | succ d ih =>
    intro i k hi hk
    obtain ⟨k, rfl⟩ : ∃ k', k = k' + 2 := ⟨k - 2, by omega⟩
    unfold semver_comparePrerelease.l0
    rw [if_pos (by omega)]
    have ih' := ih (i + 1) k (by omega) (by omega)
    have wi : wrap64 ((i : Int) + 1) = ((i + 1 : Nat) : Int) := w1 i (by omega)
    have nilB : tl (⟨#[]⟩ : ByteArray) = [] := rfl
    have fin : ∀ x y : ByteArray, x.size ≤ 281474976710656 → y.size ≤ 281474976710656 → ∀ z : Int,
        semver_comparePrerelease.l0 k A B (A.length : Int) (B.length : Int) (mx : Int) ((i + 1 : Nat) : Int) = some z →
        ((Hand.comparePrePart.f x y).bind fun t => if t = 0 then semver_comparePrerelease.l0 k A B (A.length : Int) (B.length : Int) (mx : Int) (wrap64 ((i : Int) + 1)) else some t) = some (andThen (cmpPart (tl x) (tl y)) z) := by
      intro x y hx hy z hz
      unfold Hand.comparePrePart.f
      rw [if_pos ⟨hx, hy⟩, Option.bind_some, wi, hz]
      unfold andThen
      by_cases h : cmpPart (tl x) (tl y) = 0
      · rw [if_pos h, if_pos h]
      · rw [if_neg h, if_neg h]
    have e0 : (ByteArray.mk #[]).size ≤ 281474976710656 := by decide
    cases ea : A.drop i with
    | nil =>
      have la := drop_nil ea
      rw [if_neg (by omega)]
      unfold semver_comparePrerelease.j2
      cases eb : B.drop i with
      | nil => have := drop_nil eb; omega
      | cons y B' =>
        have lb := drop_lt eb
        rw [if_pos (by omega), if_pos (by omega), if_pos (by omega), rdOf_drop eb]
        have ea' : A.drop (i + 1) = [] := List.drop_eq_nil_of_le (by omega)
        rw [ea', drop_succ eb] at ih'
        simp only [List.map_cons, List.map_nil, cmpParts]
        exact fin _ y e0 (hB y (by rw [← List.take_append_drop i B, eb]; simp)) _ ih'
    | cons x A' =>
      have la := drop_lt ea
      rw [if_pos (by omega), if_pos (by omega), if_pos (by omega), rdOf_drop ea]
      have hx := hA x (by rw [← List.take_append_drop i A, ea]; simp)
      unfold semver_comparePrerelease.j2
      cases eb : B.drop i with
      | nil =>
        have lb := drop_nil eb
        rw [if_neg (by omega)]
        have eb' : B.drop (i + 1) = [] := List.drop_eq_nil_of_le (by omega)
        rw [eb', drop_succ ea] at ih'
        simp only [List.map_cons, List.map_nil, cmpParts]
        exact fin x _ hx e0 _ ih'
      | cons y B' =>
        have lb := drop_lt eb
        rw [if_pos (by omega), if_pos (by omega), if_pos (by omega), rdOf_drop eb]
        rw [drop_succ ea, drop_succ eb] at ih'
        simp only [List.map_cons, List.map_nil, cmpParts]
        exact fin x y hx (hB y (by rw [← List.take_append_drop i B, eb]; simp)) _ ih'
theorem bs_size {l : List (List UInt8)} {n : Nat} (h : ∀ x ∈ l, x.length ≤ n) : ∀ x ∈ bs l, x.size ≤ n := by
  intro x hx
  simp only [bs, List.mem_map] at hx
  obtain ⟨y, hy, rfl⟩ := hx
  have := h y hy
  rw [size_data]; simpa using this
/-- What the comparison of two prereleases says. -/
def cmpPre (a b : ByteArray) : Int := cmpParts (splitD (tl a)) (splitD (tl b))
theorem comparePrerelease_f (a b : ByteArray) (k : Nat) (ha : a.size < 8796093022208) (hb : b.size < 8796093022208) (hk : 2 * (a.size + b.size) + 10 ≤ k) :
    semver_comparePrerelease.f k a b = some (cmpPre a b) := by
  unfold semver_comparePrerelease.f
  rw [zzSplit_f a k (by omega) ha, zzSplit_f b k (by omega) hb]
  simp only [Option.bind_some]
  obtain ⟨k, rfl⟩ : ∃ k', k = k' + 1 := ⟨k - 1, by omega⟩
  have l1 := splitD_length (tl a)
  have l2 := splitD_length (tl b)
  rw [← size_data] at l1 l2
  have s1 : (tl a).length = a.size := (size_data a).symm
  have s2 : (tl b).length = b.size := (size_data b).symm
  have m1 := bs_size (splitD_mem (tl a))
  have m2 := bs_size (splitD_mem (tl b))
  have go : ∀ mx : Nat, mx = max (bs (splitD (tl a))).length (bs (splitD (tl b))).length → semver_comparePrerelease.j0 (k + 1) (bs (splitD (tl a))) (bs (splitD (tl b))) ((bs (splitD (tl a))).length : Int) ((bs (splitD (tl b))).length : Int) (mx : Int) = some (cmpPre a b) := by
    intro mx hmx
    unfold semver_comparePrerelease.j0
    have := cmp_l0 (bs (splitD (tl a))) (bs (splitD (tl b))) (fun x hx => by have := m1 x hx; omega) (fun x hx => by have := m2 x hx; omega) (by rw [bs_length]; omega) (by rw [bs_length]; omega) mx hmx mx 0 k (by omega) (by rw [bs_length, bs_length] at hmx; omega)
    rw [List.drop_zero, List.drop_zero, bs_toList, bs_toList] at this
    exact this
  split
  · rename_i h; exact go _ (by omega)
  · rename_i h; exact go _ (by omega)
theorem ComparePre_f (a b : ByteArray) (k : Nat) (ha : a.size < 8796093022208) (hb : b.size < 8796093022208) (hk : 2 * (a.size + b.size) + 10 ≤ k) :
    impl_ComparePre.f k a b = some (cmpPre a b) := by
  unfold impl_ComparePre.f semver_ZZComparePrerelease.f
  rw [comparePrerelease_f a b k ha hb hk]; rfl

/-! ### The grammar of prereleases -/
def identB (c : UInt8) : Bool := dig c || decide (65 ≤ c.toNat ∧ c.toNat ≤ 90) || decide (97 ≤ c.toNat ∧ c.toNat ≤ 122) || decide (c.toNat = 45)
theorem isDigit_f (c : UInt8) : spec_isDigit.f (c.toNat : Int) = some (dig c) := by
  unfold spec_isDigit.f dig
  split
  · rename_i h
    congr 1
    rw [Bool.eq_iff_iff, decide_eq_true_eq, decide_eq_true_eq]; omega
  · rename_i h
    congr 1
    symm
    rw [decide_eq_false_iff_not]; omega
theorem isIdent_f (c : UInt8) : spec_isIdent.f (c.toNat : Int) = some (identB c) := by
  unfold spec_isIdent.f
  rw [isDigit_f, Option.bind_some]
  unfold identB
  by_cases h : dig c = true
  · rw [if_pos h, h]; rfl
  · rw [if_neg h, Bool.eq_false_iff.2 h, Bool.false_or]
    repeat' split
    all_goals
      congr 1
      rw [Bool.eq_iff_iff]
      simp only [Bool.or_eq_true, decide_eq_true_eq, beq_iff_eq, eq_self, true_iff]
      omega
theorem Digits_l0 (a : ByteArray) (ha : a.size < 4611686018427387900) : ∀ (rest : List UInt8) (i k : Nat), a.data.toList.drop i = rest → i ≤ a.size → rest.length < k →
    spec_Digits.l0 k a (i : Int) = some (rest.all dig && (a.toList != []))
  | [], i, k, hd, hi, hk => by
    obtain ⟨k, rfl⟩ : ∃ k', k = k' + 1 := ⟨k - 1, by omega⟩
    have := drop_nil hd
    rw [← size_data] at this
    unfold spec_Digits.l0
    rw [if_neg (by omega)]
    simp
  | c :: r, i, k, hd, hi, hk => by
    obtain ⟨k, rfl⟩ : ∃ k', k = k' + 1 := ⟨k - 1, by omega⟩
    have hlt := drop_lt hd
    rw [← size_data] at hlt
    unfold spec_Digits.l0
    rw [if_pos (by omega), if_pos (by omega), bt_drop hd, isDigit_f, Option.bind_some, w1 i (by omega), Digits_l0 a ha r (i + 1) k (drop_succ hd) (by omega) (by simp at hk; omega)]
    by_cases h : dig c = true
    · rw [if_pos h, List.all_cons, h, Bool.true_and]
    · rw [if_neg h, List.all_cons, Bool.eq_false_iff.2 h]; rfl
theorem ValidIdent_l0 (a : ByteArray) (ha : a.size < 4611686018427387900) : ∀ (rest : List UInt8) (i k : Nat), a.data.toList.drop i = rest → i ≤ a.size → rest.length < k →
    spec_ValidIdent.l0 k a (i : Int) = some (rest.all identB && (a.toList != []))
  | [], i, k, hd, hi, hk => by
    obtain ⟨k, rfl⟩ : ∃ k', k = k' + 1 := ⟨k - 1, by omega⟩
    have := drop_nil hd
    rw [← size_data] at this
    unfold spec_ValidIdent.l0
    rw [if_neg (by omega)]
    simp
  | c :: r, i, k, hd, hi, hk => by
    obtain ⟨k, rfl⟩ : ∃ k', k = k' + 1 := ⟨k - 1, by omega⟩
    have hlt := drop_lt hd
    rw [← size_data] at hlt
    unfold spec_ValidIdent.l0
    rw [if_pos (by omega), if_pos (by omega), bt_drop hd, isIdent_f, Option.bind_some, w1 i (by omega), ValidIdent_l0 a ha r (i + 1) k (drop_succ hd) (by omega) (by simp at hk; omega)]
    by_cases h : identB c = true
    · rw [if_pos h, List.all_cons, h, Bool.true_and]
    · rw [if_neg h, List.all_cons, Bool.eq_false_iff.2 h]; rfl
theorem toList_ne (a : ByteArray) : (a.toList != []) = !(tl a).isEmpty := by
  rw [ByteArray.toList_eq]
  show (tl a != []) = _
  generalize tl a = l
  cases l <;> rfl
/-- An identifier's letters, at least one. -/
def identL (l : List UInt8) : Bool := l.all identB && !l.isEmpty
def digsL (l : List UInt8) : Bool := l.all dig && !l.isEmpty
theorem Digits_f (a : ByteArray) (ha : a.size < 4611686018427387900) (k : Nat) (hk : a.size < k) : spec_Digits.f k a = some (digsL (tl a)) := by
  have := Digits_l0 a ha (tl a) 0 k (by simp) (by omega) (by rw [← size_data]; exact hk)
  unfold spec_Digits.f digsL
  rw [toList_ne] at this
  exact this
theorem ValidIdent_f (a : ByteArray) (ha : a.size < 4611686018427387900) (k : Nat) (hk : a.size < k) : spec_ValidIdent.f k a = some (identL (tl a)) := by
  have := ValidIdent_l0 a ha (tl a) 0 k (by simp) (by omega) (by rw [← size_data]; exact hk)
  unfold spec_ValidIdent.f identL
  rw [toList_ne] at this
  exact this
theorem Identifiers_l0 (a : ByteArray) (ha : a.size < 8796093022200) : ∀ (rest : List UInt8) (i : Nat) (acc : List ByteArray) (s k : Nat), a.data.toList.drop i = rest → s ≤ i → i ≤ a.size → (46 : UInt8) ∉ (a.data.toList.drop s).take (i - s) → acc.length ≤ i → rest.length < k →
    spec_Identifiers.l0 k a acc (s : Int) (i : Int) = some (acc ++ bs (splitD (a.data.toList.drop s)))
  | [], i, acc, s, k, hd, hs, hi, hn, hc, hk => by
    obtain ⟨k, rfl⟩ : ∃ k', k = k' + 1 := ⟨k - 1, by omega⟩
    have := drop_nil hd
    rw [← size_data] at this
    have e : i = a.size := by omega
    subst e
    have e1 : (a.data.toList.drop s).take (a.size - s) = a.data.toList.drop s := by
      rw [List.take_of_length_le]; rw [List.length_drop, ← size_data]; exact Nat.le_refl _
    rw [e1] at hn
    unfold spec_Identifiers.l0
    rw [if_neg (by omega), if_pos (by omega), if_pos (by omega), if_pos (by omega), splitD_none hn, Int.toNat_natCast]
    congr 2
    have : a.extract s a.size = ⟨(a.data.toList.drop s).toArray⟩ := bytes_ext (by rw [extract_data, e1])
    rw [this]; rfl
  | c :: r, i, acc, s, k, hd, hs, hi, hn, hc, hk => by
    obtain ⟨k, rfl⟩ : ∃ k', k = k' + 1 := ⟨k - 1, by omega⟩
    have hlt := drop_lt hd
    rw [← size_data] at hlt
    have hk' : r.length < k := by simp at hk; omega
    unfold spec_Identifiers.l0
    rw [if_pos (by omega), if_pos (by omega), bt_drop hd]
    have e1 : a.data.toList.drop s = (a.data.toList.drop s).take (i - s) ++ c :: r := by
      conv => lhs; rw [← List.take_append_drop (i - s) (a.data.toList.drop s)]
      rw [List.drop_drop, show s + (i - s) = i by omega, hd]
    by_cases h : c = 46
    · subst h
      rw [if_pos (by rfl), if_pos (by omega), if_pos (by omega), if_pos (by omega), if_pos (by omega), w1 i (by omega)]
      rw [Identifiers_l0 a ha r (i + 1) _ (i + 1) k (drop_succ hd) (Nat.le_refl _) (by omega) (by simp) (by simp; omega) hk']
      rw [e1, splitD_at hn, drop_succ hd, Int.toNat_natCast, Int.toNat_natCast]
      have : a.extract s i = ⟨((a.data.toList.drop s).take (i - s)).toArray⟩ := bytes_ext (by rw [extract_data])
      rw [this]
      simp [bs]
    · have hcn : ¬ (c.toNat : Int) = 46 := by
        intro e
        exact h (UInt8.toNat_inj.1 (by show c.toNat = 46; omega))
      rw [if_neg hcn, w1 i (by omega)]
      refine Identifiers_l0 a ha r (i + 1) acc s k (drop_succ hd) (by omega) (by omega) ?_ (by omega) hk'
      have e2 : (a.data.toList.drop s).take (i + 1 - s) = (a.data.toList.drop s).take (i - s) ++ [c] := by
        have e3 : i + 1 - s = (i - s) + 1 := by omega
        rw [e3, List.take_add_one]
        congr 1
        have : (a.data.toList.drop s)[i - s]? = some c := by
          rw [List.getElem?_drop, show s + (i - s) = i by omega]
          have := congrArg List.head? hd
          rwa [List.head?_drop] at this
        rw [this]; rfl
      rw [e2, List.mem_append, not_or]
      exact ⟨hn, by simp; exact fun e => h e.symm⟩
theorem Identifiers_f (a : ByteArray) (ha : a.size < 8796093022200) (k : Nat) (hk : a.size < k) : spec_Identifiers.f k a = some (bs (splitD (tl a))) := by
  have := Identifiers_l0 a ha (tl a) 0 [] 0 k (by simp) (Nat.le_refl _) (by omega) (by simp) (by simp) (by rw [← size_data]; exact hk)
  unfold spec_Identifiers.f
  simpa using this
/-- No zero ahead of a number. -/
def okPre (l : List UInt8) : Bool := identL l && (!digsL l || plain l)
def okSmall (l : List UInt8) : Bool := !digsL l || decide (l.length ≤ 19)
theorem ValidPre_l0 (xs : List ByteArray) (M : Nat) (hM : M < 8796093022200) (hx : ∀ x ∈ xs, x.size ≤ M) (hl : xs.length < 8796093022208) : ∀ (rest : List ByteArray) (i k : Nat), xs.drop i = rest → rest.length + M < k →
    spec_ValidPre.l0 k xs (xs.length : Int) (i : Int) = some (rest.all fun x => okPre (tl x))
  | [], i, k, hd, hk => by
    obtain ⟨k, rfl⟩ : ∃ k', k = k' + 1 := ⟨k - 1, by omega⟩
    have := drop_nil hd
    unfold spec_ValidPre.l0
    rw [if_neg (by omega)]; rfl
  | c :: r, i, k, hd, hk => by
    obtain ⟨k, rfl⟩ : ∃ k', k = k' + 1 := ⟨k - 1, by omega⟩
    have hlt := drop_lt hd
    have hc : c.size ≤ M := hx c (by rw [← List.take_append_drop i xs, hd]; simp)
    have hk' : r.length + M < k := by simp at hk; omega
    have ih := ValidPre_l0 xs M hM hx hl r (i + 1) k (drop_succ hd) hk'
    unfold spec_ValidPre.l0
    rw [if_pos (by omega), if_pos (by omega), if_pos (by omega), rdOf_drop hd, ValidIdent_f c (by omega) k (by omega), Digits_f c (by omega) k (by omega), w1 i (by omega), ih]
    simp only [Option.bind_some, List.all_cons]
    unfold okPre
    by_cases h1 : identL (tl c) = true
    · rw [if_pos h1, h1]
      by_cases h2 : digsL (tl c) = true
      · rw [if_pos h2, h2]
        have hsz : (tl c).length = c.size := (size_data c).symm
        by_cases h3 : (c.size : Int) > 1
        · rw [if_pos h3, if_pos (by omega)]
          cases e : tl c with
          | nil => rw [e] at hsz; simp at hsz; omega
          | cons d q =>
            have eb : bt c ((0 : Nat) : Int) = (d.toNat : Int) := bt_drop (r := q) (by rw [List.drop_zero]; exact e)
            have hq : ¬ (q.length + 1 ≤ 1) := by rw [e] at hsz; simp at hsz; omega
            by_cases h4 : d = 48
            · subst h4
              rw [if_pos (by exact eb)]
              simp [plain, hq]
            · rw [if_neg (by
                intro e'
                apply h4
                have e2 : ((d.toNat : Int)) = 48 := by rw [← eb]; exact e'
                exact UInt8.toNat_inj.1 (by show d.toNat = 48; omega))]
              simp [plain, h4]
        · rw [if_neg h3]
          have : plain (tl c) = true := by simp [plain, hsz]; left; omega
          rw [this]; rfl
      · rw [if_neg h2, Bool.eq_false_iff.2 h2]; rfl
    · rw [if_neg h1, Bool.eq_false_iff.2 h1]; rfl
theorem SmallPre_l0 (xs : List ByteArray) (M : Nat) (hM : M < 8796093022200) (hx : ∀ x ∈ xs, x.size ≤ M) (hl : xs.length < 8796093022208) : ∀ (rest : List ByteArray) (i k : Nat), xs.drop i = rest → rest.length + M < k →
    spec_SmallPre.l0 k xs (xs.length : Int) (i : Int) = some (rest.all fun x => okSmall (tl x))
  | [], i, k, hd, hk => by
    obtain ⟨k, rfl⟩ : ∃ k', k = k' + 1 := ⟨k - 1, by omega⟩
    have := drop_nil hd
    unfold spec_SmallPre.l0
    rw [if_neg (by omega)]; rfl
  | c :: r, i, k, hd, hk => by
    obtain ⟨k, rfl⟩ : ∃ k', k = k' + 1 := ⟨k - 1, by omega⟩
    have hlt := drop_lt hd
    have hc : c.size ≤ M := hx c (by rw [← List.take_append_drop i xs, hd]; simp)
    have hk' : r.length + M < k := by simp at hk; omega
    have ih := SmallPre_l0 xs M hM hx hl r (i + 1) k (drop_succ hd) hk'
    unfold spec_SmallPre.l0
    rw [if_pos (by omega), if_pos (by omega), if_pos (by omega), rdOf_drop hd, Digits_f c (by omega) k (by omega), w1 i (by omega), ih]
    simp only [Option.bind_some, List.all_cons]
    unfold okSmall
    have hsz : (tl c).length = c.size := (size_data c).symm
    by_cases h2 : digsL (tl c) = true
    · rw [if_pos h2, h2]
      by_cases h3 : (c.size : Int) > 19
      · rw [if_pos h3]
        have : ¬ (tl c).length ≤ 19 := by omega
        rw [decide_eq_false this]; rfl
      · rw [if_neg h3]
        have : (tl c).length ≤ 19 := by omega
        rw [decide_eq_true this]; rfl
    · rw [if_neg h2, Bool.eq_false_iff.2 h2]; rfl
theorem all_bs (p : List UInt8 → Bool) (l : List (List UInt8)) : ((bs l).all fun x => p (tl x)) = l.all p := by
  unfold bs
  rw [List.all_map]
  congr 1
/-- A prerelease that is valid. -/
def validPre (a : ByteArray) : Bool := (splitD (tl a)).all okPre
def smallPre (a : ByteArray) : Bool := (splitD (tl a)).all okSmall
theorem ValidPre_f (a : ByteArray) (ha : a.size < 1000000000000) (k : Nat) (hk : 2 * a.size + 3 < k) : spec_ValidPre.f k a = some (validPre a) := by
  have hsz : (tl a).length = a.size := (size_data a).symm
  have l1 := splitD_length (tl a)
  unfold spec_ValidPre.f
  rw [Identifiers_f a (by omega) k (by omega), Option.bind_some]
  have := ValidPre_l0 (bs (splitD (tl a))) a.size (by omega) (by rw [← hsz]; exact bs_size (splitD_mem (tl a))) (by rw [bs_length]; omega) (bs (splitD (tl a))) 0 k rfl (by rw [bs_length]; omega)
  rw [all_bs] at this
  exact this
theorem SmallPre_f (a : ByteArray) (ha : a.size < 1000000000000) (k : Nat) (hk : 2 * a.size + 3 < k) : spec_SmallPre.f k a = some (smallPre a) := by
  have hsz : (tl a).length = a.size := (size_data a).symm
  have l1 := splitD_length (tl a)
  unfold spec_SmallPre.f
  rw [Identifiers_f a (by omega) k (by omega), Option.bind_some]
  have := SmallPre_l0 (bs (splitD (tl a))) a.size (by omega) (by rw [← hsz]; exact bs_size (splitD_mem (tl a))) (by rw [bs_length]; omega) (bs (splitD (tl a))) 0 k rfl (by rw [bs_length]; omega)
  rw [all_bs] at this
  exact this
theorem svShort1 (x : ByteArray) (k : Nat) (hk : 2 ≤ k) : laws_svShort.f k [x] = some (decide (x.size ≤ 65536)) := by
  obtain ⟨k, rfl⟩ : ∃ k', k = k' + 2 := ⟨k - 2, by omega⟩
  unfold laws_svShort.f laws_svShort.l0
  rw [if_pos (by simp), if_pos (by omega), if_pos (by simp)]
  have e : rdOf ByteArray.empty [x] 0 = x := rfl
  rw [e]
  by_cases h : (x.size : Int) > 65536
  · rw [if_pos h, decide_eq_false (by omega)]
  · rw [if_neg h, decide_eq_true (by omega)]
    unfold laws_svShort.l0
    have e2 : wrap64 (0 + 1) = 1 := by unfold wrap64; omega
    have e3 : (([x].length : Nat) : Int) = 1 := rfl
    rw [e2, e3, if_neg (by omega)]
/-- A prerelease, not empty, valid and of small numbers. -/
def goodPre (x : ByteArray) : Bool := !(tl x).isEmpty && decide (x.size ≤ 65536) && validPre x && smallPre x
theorem spPres_l0 (xs : List ByteArray) (hl : xs.length < 8796093022208) : ∀ (rest : List ByteArray) (i k : Nat), xs.drop i = rest → rest.length + 200000 < k →
    laws_spPres.l0 k xs (xs.length : Int) (i : Int) = some (rest.all goodPre)
  | [], i, k, hd, hk => by
    obtain ⟨k, rfl⟩ : ∃ k', k = k' + 1 := ⟨k - 1, by omega⟩
    have := drop_nil hd
    unfold laws_spPres.l0
    rw [if_neg (by omega)]; rfl
  | c :: r, i, k, hd, hk => by
    obtain ⟨k, rfl⟩ : ∃ k', k = k' + 1 := ⟨k - 1, by omega⟩
    have hlt := drop_lt hd
    have hk' : r.length + 200000 < k := by simp at hk; omega
    have ih := spPres_l0 xs hl r (i + 1) k (drop_succ hd) hk'
    unfold laws_spPres.l0
    rw [if_pos (by omega), if_pos (by omega), if_pos (by omega), rdOf_drop hd, ByteArray.toList_eq]
    simp only [List.all_cons]
    unfold goodPre
    by_cases h1 : tl c = []
    · rw [if_pos h1, h1]; rfl
    have e1 : (tl c).isEmpty = false := by cases e : tl c with
      | nil => exact absurd e h1
      | cons a b => rfl
    rw [if_neg h1, svShort1 c k (by omega), e1, w1 i (by omega), ih, Option.bind_some]
    by_cases h2 : c.size ≤ 65536
    · rw [decide_eq_true h2, if_pos rfl, ValidPre_f c (by omega) k (by omega), SmallPre_f c (by omega) k (by omega)]
      simp only [Option.bind_some]
      cases validPre c
      · rfl
      · cases smallPre c <;> rfl
    · rw [decide_eq_false h2]; rfl
theorem spPres_f (xs : List ByteArray) (hl : xs.length < 100) (k : Nat) (hk : 200200 < k) : laws_spPres.f k xs = some (xs.all goodPre) := by
  unfold laws_spPres.f
  exact spPres_l0 xs (by omega) xs 0 k rfl (by omega)
theorem ident_ne {l : List UInt8} (h : okPre l = true) : l ≠ [] := by
  rintro rfl
  simp [okPre, identL] at h
theorem append_tl (a b : ByteArray) : tl ((a ++ dot) ++ b) = tl a ++ 46 :: tl b := by
  unfold tl
  rw [ByteArray.data_append, ByteArray.data_append, Array.toList_append, Array.toList_append]
  simp
theorem fnSemverPreHead_pure : laws_FnSemverPreHead.Pure := by
  intro a0 a1 a2 _ _ _
  refine ⟨30000000000, ?_⟩
  have main : ∀ b : Bool, (b = false → a0.size ≤ 2147483647 ∧ a1.size ≤ 2147483647 ∧ a2.size ≤ 2147483647) → laws_FnSemverPreHead.j0 30000000000 a0 a1 a2 b = some true := by
    intro b hb
    obtain ⟨k, hk⟩ : ∃ k, 30000000000 = k + 1 := ⟨29999999999, rfl⟩
    rw [hk]
    unfold laws_FnSemverPreHead.j0
    cases b with
    | true => rfl
    | false =>
      dsimp only
      obtain ⟨h0, h1, h2⟩ := hb rfl
      rw [if_neg (by decide), spPres_f _ (by simp) k (by omega), Option.bind_some]
      by_cases hg : [a0, a1, a2].all goodPre = true
      · rw [if_pos hg]
        simp only [List.all_cons, List.all_nil, Bool.and_true, Bool.and_eq_true] at hg
        obtain ⟨g0, g1, g2⟩ := hg
        have sz : ∀ a b : ByteArray, ((a ++ dot) ++ b).size = a.size + 1 + b.size := by
          intro a b
          rw [ByteArray.size_append, ByteArray.size_append]; rfl
        have sd : (a0 ++ dot).size = a0.size + 1 := by rw [ByteArray.size_append]; rfl
        rw [if_pos (by omega), if_pos (by rw [sd]; omega), if_pos (by rw [sd]; omega)]
        have v1 : validPre a1 = true := by
          unfold goodPre at g1; simp only [Bool.and_eq_true] at g1; exact g1.1.2
        have v2 : validPre a2 = true := by
          unfold goodPre at g2; simp only [Bool.and_eq_true] at g2; exact g2.1.2
        have e1 : cmpPre (a0 ++ dot ++ a1) (a0 ++ dot ++ a2) = cmpPre a1 a2 := by
          unfold cmpPre
          rw [append_tl, append_tl, splitD_app, splitD_app, cmpParts_head]
        have long : ∀ x, validPre x = true → cmpPre a0 (a0 ++ dot ++ x) = -1 ∧ cmpPre (a0 ++ dot ++ x) a0 = 1 := by
          intro x hx
          unfold cmpPre
          rw [append_tl, splitD_app]
          unfold validPre at hx
          cases e : splitD (tl x) with
          | nil => exact absurd e (splitD_ne _)
          | cons y ys =>
            rw [e, List.all_cons, Bool.and_eq_true] at hx
            exact cmpParts_longer _ y ys (ident_ne hx.1)
        rw [ComparePre_f _ _ k (by rw [sz]; omega) (by rw [sz]; omega) (by rw [sz, sz]; omega), ComparePre_f _ _ k (by omega) (by omega) (by omega)]
        rw [ComparePre_f _ _ k (by omega) (by rw [sz]; omega) (by rw [sz]; omega), ComparePre_f _ _ k (by rw [sz]; omega) (by omega) (by rw [sz]; omega)]
        simp only [Option.bind_some]
        rw [if_pos e1, if_pos (long a1 v1).1, (long a2 v2).2]
        rfl
      · rw [if_neg hg]
  unfold laws_FnSemverPreHead.f
  split
  · exact main true (by simp)
  · split
    · exact main true (by simp)
    · refine main _ ?_
      intro h
      have := of_decide_eq_false h
      omega
end Go.Proofs.YtalpehfjjidfhaaDoor.MA
