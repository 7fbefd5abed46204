/- The plain law of FnSemverOrder: the comparison of versions is a total order. -/
import Derived.Test.YtalpehfjjidfhaaDoorHandC
namespace Go.Proofs.YtalpehfjjidfhaaDoor.Sv
open Go Hand MA
set_option linter.unusedVariables false
theorem segOrd : Ord (fun _ => True) seg where
  rng a b _ _ := by unfold seg; split <;> (try split) <;> simp
  anti a b _ _ := by unfold seg; split <;> split <;> (try split) <;> omega
  eq a b _ _ := seg_none
  trans a b c _ _ _ h1 h2 := by
    unfold seg at *
    split at h1 <;> (try split at h1) <;> split at h2 <;> (try split at h2) <;> split <;> (try split) <;> omega
def unsplit : List (List UInt8) → List UInt8
  | [] => []
  | [x] => x
  | x :: y :: l => x ++ 46 :: unsplit (y :: l)
theorem unsplit_splitD (l : List UInt8) : unsplit (splitD l) = l := by
  induction l with
  | nil => rfl
  | cons c r ih =>
    rw [splitD_cons]
    have hn := splitD_ne r
    by_cases h : c = 46
    · rw [if_pos h]
      cases e : splitD r with
      | nil => exact absurd e hn
      | cons y t => rw [e] at ih; simp only [unsplit, List.nil_append, ih, h]
    · rw [if_neg h]
      cases e : splitD r with
      | nil => exact absurd e hn
      | cons y t =>
        rw [e] at ih
        cases t with
        | nil => simp only [unsplit] at ih; simp [conS, unsplit, ih]
        | cons z t => simp only [unsplit] at ih; simp [conS, unsplit, ih]
theorem splitD_inj {a b : List UInt8} (h : splitD a = splitD b) : a = b := by
  rw [← unsplit_splitD a, ← unsplit_splitD b, h]
/-- Numbers without a zero ahead. -/
def Ok (l : List UInt8) : Prop := okPre l = true ∧ okSmall l = true
theorem num_dec {l : List UInt8} {u : Nat} (h : Ok l) (hn : num? l = some u) : l = dec u := by
  unfold num? at hn
  split at hn
  · rename_i v hv
    injection hn with hn
    subst hn
    obtain ⟨h1, h2, rfl⟩ := parse_ok hv
    have hd : digsL l = true := by
      unfold digsL
      rw [h2]
      cases l with
      | nil => exact absurd rfl h1
      | cons a b => rfl
    have hp := h.1
    unfold okPre at hp
    rw [hd] at hp
    simp only [Bool.not_true, Bool.false_or, Bool.and_eq_true] at hp
    exact (dec_of l h1 h2 hp.2).symm
  · cases hn
theorem okTells : Tells Ok := fun a b ha hb u h1 h2 => (num_dec ha h1).trans (num_dec hb h2).symm
/-- No prerelease, or a valid one of small numbers. -/
def GoodU (u : ByteArray) : Prop := u.toList = [] ∨ (validPre u = true ∧ smallPre u = true)
theorem good_parts {u : ByteArray} (h : validPre u = true ∧ smallPre u = true) : ∀ x ∈ splitD (tl u), Ok x ∧ x ≠ [] := by
  intro x hx
  have h1 : okPre x = true := List.all_eq_true.1 h.1 x hx
  have h2 : okSmall x = true := List.all_eq_true.1 h.2 x hx
  exact ⟨⟨h1, h2⟩, ident_ne h1⟩
theorem nil_ext {a b : ByteArray} (h : a.toList = b.toList) : a = b := by
  rw [ByteArray.toList_eq, ByteArray.toList_eq] at h
  exact bytes_ext h
theorem preOrd : Ord GoodU preCmp where
  rng a b ha hb := by
    unfold preCmp
    split
    · simp
    split
    · simp
    split
    · simp
    rename_i h1 h2 h3
    exact (partsOrd okTells).rng _ _ (good_parts (ha.resolve_left h2)) (good_parts (hb.resolve_left h3))
  anti a b ha hb := by
    unfold preCmp
    by_cases h1 : a.toList = [] <;> by_cases h2 : b.toList = [] <;> simp only [h1, h2, and_self, and_false, false_and, if_true, if_false]
    · rfl
    · rfl
    · exact (partsOrd okTells).anti _ _ (good_parts (ha.resolve_left h1)) (good_parts (hb.resolve_left h2))
  eq a b ha hb := by
    unfold preCmp
    by_cases h1 : a.toList = [] <;> by_cases h2 : b.toList = [] <;> simp only [h1, h2, and_self, and_false, false_and, if_true, if_false]
    · exact ⟨fun _ => nil_ext (h1.trans h2.symm), fun _ => trivial⟩
    · exact ⟨fun h => absurd h (by decide), fun h => absurd (h ▸ h1) h2⟩
    · exact ⟨fun h => absurd h (by decide), fun h => absurd (h ▸ h2) h1⟩
    · have := (partsOrd okTells).eq _ _ (good_parts (ha.resolve_left h1)) (good_parts (hb.resolve_left h2))
      exact ⟨fun h => bytes_ext (splitD_inj (this.1 h)), fun h => this.2 (by rw [h])⟩
  trans a b c ha hb hc h1 h2 := by
    unfold preCmp at *
    by_cases e1 : a.toList = [] <;> by_cases e2 : b.toList = [] <;> by_cases e3 : c.toList = [] <;> simp only [e1, e2, e3, and_self, and_false, false_and, if_true, if_false] at h1 h2 ⊢ <;> try omega
    exact (partsOrd okTells).trans _ _ _ (good_parts (ha.resolve_left e1)) (good_parts (hb.resolve_left e2)) (good_parts (hc.resolve_left e3)) h1 h2
/-- What the comparison of versions hangs on. -/
abbrev Key := Int × Int × Int × ByteArray
def keyCmp (a b : Key) : Int := cmpVer a.1 a.2.1 a.2.2.1 a.2.2.2 b.1 b.2.1 b.2.2.1 b.2.2.2
theorem keyOrd : Ord (fun k : Key => True ∧ True ∧ True ∧ GoodU k.2.2.2) keyCmp := pairOrd segOrd (pairOrd segOrd (pairOrd segOrd preOrd))
end Go.Proofs.YtalpehfjjidfhaaDoor.Sv
