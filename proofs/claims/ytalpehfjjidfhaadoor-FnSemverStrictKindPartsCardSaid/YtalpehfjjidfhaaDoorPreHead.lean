/- The plain law of the comparison of prereleases: no program in sight. -/
import Derived.Test.YtalpehfjjidfhaaDoorMAx1
import Derived.Test.YtalpehfjjidfhaaDoorSplit
namespace Go.Proofs.YtalpehfjjidfhaaDoor.MA
open Go.RowKit Go.Proofs.YtalpehfjjidfhaaDoorW.PrintWords Go.Proofs.YtalpehfjjidfhaaDoor Sv
set_option linter.unusedVariables false
set_option linter.unusedSimpArgs false

abbrev dot : ByteArray := ⟨#[46]⟩
abbrev tl (x : ByteArray) : List UInt8 := x.data.toList
theorem zzIndex_l0 (a : ByteArray) (ha : a.size < 4611686018427387900) : ∀ (rest : List UInt8) (i k : Nat), a.data.toList.drop i = rest → i ≤ a.size → rest.length < k →
    semver_zzIndex.l0 k a dot (i : Int) = some (match firstDot rest with | some m => ((i + m : Nat) : Int) | none => -1)
  | [], i, k, hd, hi, hk => by
    obtain ⟨k, rfl⟩ : ∃ k', k = k' + 1 := ⟨k - 1, by omega⟩
    have := drop_nil hd
    rw [← size_data] at this
    have e : i = a.size := by omega
    subst e
    unfold semver_zzIndex.l0
    have e1 : wrap64 ((a.size : Int) + ((dot : ByteArray).size : Int)) = ((a.size + 1 : Nat) : Int) := w1 _ (by omega)
    rw [e1, if_neg (by omega)]
    rfl
  | c :: r, i, k, hd, hi, hk => by
    obtain ⟨k, rfl⟩ : ∃ k', k = k' + 1 := ⟨k - 1, by omega⟩
    have hlt := drop_lt hd
    rw [← size_data] at hlt
    unfold semver_zzIndex.l0
    have e1 : wrap64 ((i : Int) + ((dot : ByteArray).size : Int)) = ((i + 1 : Nat) : Int) := w1 _ (by omega)
    rw [e1, if_pos (by omega), if_pos (by omega), if_pos (by omega)]
    have e2 : (a.extract (i : Int).toNat ((i + 1 : Nat) : Int).toNat).toList = [c] := by
      rw [ByteArray.toList_eq, extract_data, Int.toNat_natCast, Int.toNat_natCast, hd]
      simp
    have e3 : (dot : ByteArray).toList = [46] := by rw [ByteArray.toList_eq]
    rw [e2, e3]
    by_cases hc : c = 46
    · subst hc
      rw [if_pos rfl]
      simp [firstDot]
    · rw [if_neg (by simpa using hc), w1 i (by omega), zzIndex_l0 a ha r (i + 1) k (drop_succ hd) (by omega) (by simp at hk; omega)]
      simp only [firstDot, if_neg hc]
      cases firstDot r with
      | none => rfl
      | some m => simp only [Option.map_some]; congr 2; omega
theorem zzIndex_f (a : ByteArray) (ha : a.size < 4611686018427387900) (k : Nat) (hk : a.size < k) :
    semver_zzIndex.f k a dot = some (match firstDot a.data.toList with | some m => (m : Int) | none => -1) := by
  have := zzIndex_l0 a ha a.data.toList 0 k (by simp) (by omega) (by rw [← size_data]; exact hk)
  unfold semver_zzIndex.f
  simp only [Nat.zero_add] at this
  exact this
theorem zzSplit_l0 : ∀ (n : Nat) (a : ByteArray) (acc : List ByteArray) (k : Nat), a.size ≤ n → a.size + 1 < k → acc.length + a.size < 8796093022208 →
    semver_zzSplit.l0 k a dot acc = some (acc ++ bs (splitD a.data.toList)) := by
  intro n
  induction n using Nat.strongRecOn with
  | ind n ih =>
    intro a acc k hn hk hc
    obtain ⟨k, rfl⟩ : ∃ k', k = k' + 1 := ⟨k - 1, by omega⟩
    unfold semver_zzSplit.l0
    rw [zzIndex_f a (by omega) k (by omega)]
    simp only [Option.bind_some]
    have hS := splitD_first a.data.toList
    cases e : firstDot a.data.toList with
    | none =>
      rw [e] at hS
      simp only
      rw [if_pos (by omega), if_pos (by omega), hS.1]
      simp only [bs, List.map_cons, List.map_nil, mk_toList]
    | some m =>
      rw [e] at hS
      simp only
      obtain ⟨h1, h2, _, _⟩ := hS
      rw [← size_data] at h2
      have e1 : wrap64 ((m : Int) + ((dot : ByteArray).size : Int)) = ((m + 1 : Nat) : Int) := w1 _ (by omega)
      rw [if_neg (by omega), if_pos (by omega), if_pos (by omega), if_pos (by omega), e1, if_pos (by omega), if_pos (by omega)]
      rw [Int.toNat_natCast, Int.toNat_natCast]
      have e2 : (a.extract (m + 1) a.size).data.toList = a.data.toList.drop (m + 1) := by
        rw [extract_data, List.take_of_length_le]
        rw [List.length_drop, ← size_data]
        exact Nat.le_refl _
      have e3 : (a.extract (m + 1) a.size).size = a.size - (m + 1) := by
        rw [size_data, e2, List.length_drop, ← size_data]
      rw [ih (a.size - (m + 1)) (by omega) _ _ k (by omega) (by omega) (by simp; omega), h1, e2]
      have e4 : a.extract 0 m = ⟨(a.data.toList.take m).toArray⟩ := bytes_ext (by rw [extract_data]; simp)
      rw [e4]
      simp [bs]
theorem zzSplit_f (a : ByteArray) (k : Nat) (hk : a.size + 1 < k) (hc : a.size < 8796093022208) :
    semver_zzSplit.f k a dot = some (bs (splitD (tl a))) := by
  unfold semver_zzSplit.f
  rw [zzSplit_l0 a.size a [] k (Nat.le_refl _) hk (by simpa using hc)]
  rfl

/-! ### The comparison of prereleases -/
theorem cmp_l0 (A B : List ByteArray) (hA : ∀ x ∈ A, x.size ≤ 281474976710656) (hB : ∀ x ∈ B, x.size ≤ 281474976710656)
    (na : A.length < 4611686018427387900) (nb : B.length < 4611686018427387900) (mx : Nat) (hmx : mx = max A.length B.length) :
    ∀ (d i k : Nat), i + d = mx → 2 * d + 1 ≤ k →
    semver_comparePrerelease.l0 k A B (A.length : Int) (B.length : Int) (mx : Int) (i : Int) = some (cmpParts ((A.drop i).map tl) ((B.drop i).map tl)) := by
  intro d
  induction d with
  | zero =>
    intro i k hi hk
    obtain ⟨k, rfl⟩ : ∃ k', k = k' + 1 := ⟨k - 1, by omega⟩
    unfold semver_comparePrerelease.l0
    rw [if_neg (by omega), List.drop_eq_nil_of_le (by omega), List.drop_eq_nil_of_le (by omega)]
    simp [cmpParts]
  | succ d ih =>
    intro i k hi hk
    obtain ⟨k, rfl⟩ : ∃ k', k = k' + 2 := ⟨k - 2, by omega⟩
    unfold semver_comparePrerelease.l0
    rw [if_pos (by omega)]
    have ih' := ih (i + 1) k (by omega) (by omega)
    have wi : wrap64 ((i : Int) + 1) = ((i + 1 : Nat) : Int) := w1 i (by omega)
    have nilB : tl (⟨#[]⟩ : ByteArray) = [] := rfl
    have fin : ∀ x y : ByteArray, x.size ≤ 281474976710656 → y.size ≤ 281474976710656 → ∀ z : Int,
        semver_comparePrerelease.l0 k A B (A.length : Int) (B.length : Int) (mx : Int) ((i + 1 : Nat) : Int) = some z →
        ((Hand.comparePrePart.f x y).bind fun t => if t = 0 then semver_comparePrerelease.l0 k A B (A.length : Int) (B.length : Int) (mx : Int) (wrap64 ((i : Int) + 1)) else some t) = some (andThen (cmpPart (tl x) (tl y)) z) := by
      intro x y hx hy z hz
      unfold Hand.comparePrePart.f
      rw [if_pos ⟨hx, hy⟩, Option.bind_some, wi, hz]
      unfold andThen
      by_cases h : cmpPart (tl x) (tl y) = 0
      · rw [if_pos h, if_pos h]
      · rw [if_neg h, if_neg h]
    have e0 : (ByteArray.mk #[]).size ≤ 281474976710656 := by decide
    cases ea : A.drop i with
    | nil =>
      have la := drop_nil ea
      rw [if_neg (by omega)]
      unfold semver_comparePrerelease.j2
      cases eb : B.drop i with
      | nil => have := drop_nil eb; omega
      | cons y B' =>
        have lb := drop_lt eb
        rw [if_pos (by omega), if_pos (by omega), if_pos (by omega), rdOf_drop eb]
        have ea' : A.drop (i + 1) = [] := List.drop_eq_nil_of_le (by omega)
        rw [ea', drop_succ eb] at ih'
        simp only [List.map_cons, List.map_nil, cmpParts]
        exact fin _ y e0 (hB y (by rw [← List.take_append_drop i B, eb]; simp)) _ ih'
    | cons x A' =>
      have la := drop_lt ea
      rw [if_pos (by omega), if_pos (by omega), if_pos (by omega), rdOf_drop ea]
      have hx := hA x (by rw [← List.take_append_drop i A, ea]; simp)
      unfold semver_comparePrerelease.j2
      cases eb : B.drop i with
      | nil =>
        have lb := drop_nil eb
        rw [if_neg (by omega)]
        have eb' : B.drop (i + 1) = [] := List.drop_eq_nil_of_le (by omega)
        rw [eb', drop_succ ea] at ih'
        simp only [List.map_cons, List.map_nil, cmpParts]
        exact fin x _ hx e0 _ ih'
      | cons y B' =>
        have lb := drop_lt eb
        rw [if_pos (by omega), if_pos (by omega), if_pos (by omega), rdOf_drop eb]
        rw [drop_succ ea, drop_succ eb] at ih'
        simp only [List.map_cons, List.map_nil, cmpParts]
        exact fin x y hx (hB y (by rw [← List.take_append_drop i B, eb]; simp)) _ ih'
theorem bs_size {l : List (List UInt8)} {n : Nat} (h : ∀ x ∈ l, x.length ≤ n) : ∀ x ∈ bs l, x.size ≤ n := by
  intro x hx
  simp only [bs, List.mem_map] at hx
  obtain ⟨y, hy, rfl⟩ := hx
  have := h y hy
  rw [size_data]; simpa using this
/-- What the comparison of two prereleases says. -/
def cmpPre (a b : ByteArray) : Int := cmpParts (splitD (tl a)) (splitD (tl b))
theorem comparePrerelease_f (a b : ByteArray) (k : Nat) (ha : a.size < 8796093022208) (hb : b.size < 8796093022208) (hk : 2 * (a.size + b.size) + 10 ≤ k) :
    semver_comparePrerelease.f k a b = some (cmpPre a b) := by
  unfold semver_comparePrerelease.f
  rw [zzSplit_f a k (by omega) ha, zzSplit_f b k (by omega) hb]
  simp only [Option.bind_some]
  obtain ⟨k, rfl⟩ : ∃ k', k = k' + 1 := ⟨k - 1, by omega⟩
  have l1 := splitD_length (tl a)
  have l2 := splitD_length (tl b)
  rw [← size_data] at l1 l2
  have s1 : (tl a).length = a.size := (size_data a).symm
  have s2 : (tl b).length = b.size := (size_data b).symm
  have m1 := bs_size (splitD_mem (tl a))
  have m2 := bs_size (splitD_mem (tl b))
  have go : ∀ mx : Nat, mx = max (bs (splitD (tl a))).length (bs (splitD (tl b))).length → semver_comparePrerelease.j0 (k + 1) (bs (splitD (tl a))) (bs (splitD (tl b))) ((bs (splitD (tl a))).length : Int) ((bs (splitD (tl b))).length : Int) (mx : Int) = some (cmpPre a b) := by
    intro mx hmx
    unfold semver_comparePrerelease.j0
    have := cmp_l0 (bs (splitD (tl a))) (bs (splitD (tl b))) (fun x hx => by have := m1 x hx; omega) (fun x hx => by have := m2 x hx; omega) (by rw [bs_length]; omega) (by rw [bs_length]; omega) mx hmx mx 0 k (by omega) (by rw [bs_length, bs_length] at hmx; omega)
    rw [List.drop_zero, List.drop_zero, bs_toList, bs_toList] at this
    exact this
  split
  · rename_i h; exact go _ (by omega)
  · rename_i h; exact go _ (by omega)
def identB (c : UInt8) : Bool := dig c || decide (65 ≤ c.toNat ∧ c.toNat ≤ 90) || decide (97 ≤ c.toNat ∧ c.toNat ≤ 122) || decide (c.toNat = 45)
theorem toList_ne (a : ByteArray) : (a.toList != []) = !(tl a).isEmpty := by
  rw [ByteArray.toList_eq]
  show (tl a != []) = _
  generalize tl a = l
  cases l <;> rfl
def identL (l : List UInt8) : Bool := l.all identB && !l.isEmpty
def digsL (l : List UInt8) : Bool := l.all dig && !l.isEmpty
def okPre (l : List UInt8) : Bool := identL l && (!digsL l || plain l)
def okSmall (l : List UInt8) : Bool := !digsL l || decide (l.length ≤ 19)
theorem all_bs (p : List UInt8 → Bool) (l : List (List UInt8)) : ((bs l).all fun x => p (tl x)) = l.all p := by
  unfold bs
  rw [List.all_map]
  congr 1
def validPre (a : ByteArray) : Bool := (splitD (tl a)).all okPre
def smallPre (a : ByteArray) : Bool := (splitD (tl a)).all okSmall
theorem ident_ne {l : List UInt8} (h : okPre l = true) : l ≠ [] := by
  rintro rfl
  simp [okPre, identL] at h
theorem append_tl (a b : ByteArray) : tl ((a ++ dot) ++ b) = tl a ++ 46 :: tl b := by
  unfold tl
  rw [ByteArray.data_append, ByteArray.data_append, Array.toList_append, Array.toList_append]
  simp
end Go.Proofs.YtalpehfjjidfhaaDoor.MA
