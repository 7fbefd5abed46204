/- What is proved: a short form of an algorithm or of any matches an entry just if its algorithm is the entry's or none and its encoded part is the beginning of the entry's (texts of up to 300 bytes together). No further condition. -/
import Derived.Test.YtcmifkepleedmaaPFnSetMatchx1
namespace Go.Proofs.Ytcmifkepleedmaa.Pure
open Go.RowKit Go.Proofs.Ytcmifkepleedmaa.PFnSetMatch Go.Proofs.YtcmifkepleedmaaW.PrintWords Go.Proofs.YtcmifkepleedmaaW.PrintLast

theorem sm_nil (s : ByteArray) : s.toList = ([] : List UInt8) ↔ ¬ ((s.size : Int) > 0) := by
  have e : s.toList.length = s.size := by rw [ByteArray.toList_eq]; simp
  constructor
  · intro h; rw [h] at e; simp at e; omega
  · intro h
    apply List.eq_nil_of_length_eq_zero
    omega

def sm_begins (s b : ByteArray) : Bool := if s.size ≥ b.size then ((s.extract 0 b.size).toList == b.toList) else false

theorem sm_refBegins (s b : ByteArray) : spec_refBegins.f s b = some (sm_begins s b) := by
  unfold spec_refBegins.f sm_begins
  by_cases h : s.size ≥ b.size
  · rw [if_pos (by omega), if_pos (by omega), if_pos (by omega), if_pos h]; rfl
  · rw [if_neg (by omega), if_neg h]

theorem sm_HasPrefix (s b : ByteArray) : strings_HasPrefix.f s b = some (sm_begins s b) := by
  unfold strings_HasPrefix.f stringslite_HasPrefix.f sm_begins
  by_cases h : s.size ≥ b.size
  · rw [if_pos (by omega), if_pos (by omega), if_pos (by omega), if_pos h]; rfl
  · rw [if_neg (by omega), if_neg h]; rfl

theorem sm_same (s b : ByteArray) (h : s.size = b.size) : sm_begins s b = (s.toList == b.toList) := by
  unfold sm_begins
  rw [if_pos (by omega), ← h]
  congr 2
  simp

theorem sm_check (a e sa sh : ByteArray) : digestset_checkShortMatch.f a e sa sh = some (sm_begins e sh && (sa.toList == [] || a.toList == sa.toList)) := by
  have hn := sm_nil sa
  unfold digestset_checkShortMatch.f
  by_cases h : (e.size : Int) = sh.size
  · have hs : e.size = sh.size := by omega
    rw [if_pos h, sm_same _ _ hs]
    by_cases c : e.toList = sh.toList
    · rw [if_pos c]
      by_cases d : (sa.size : Int) > 0
      · rw [if_pos d]
        have : sa.toList ≠ [] := fun x => (hn.1 x) d
        by_cases g : a.toList = sa.toList
        · rw [if_pos g]; simp [c, g]
        · rw [if_neg g]; simp [c, g, this]
      · rw [if_neg d]
        simp [c, hn.2 d]
    · rw [if_neg c]; simp [c]
  · rw [if_neg h, sm_HasPrefix]
    simp only [Option.bind_some]
    cases hb : sm_begins e sh
    · simp
    · by_cases d : (sa.size : Int) > 0
      · rw [if_pos rfl, if_pos d]
        have : sa.toList ≠ [] := fun x => (hn.1 x) d
        by_cases g : a.toList = sa.toList
        · rw [if_pos g]; simp [g]
        · rw [if_neg g]; simp [g, this]
      · rw [if_pos rfl, if_neg d]
        simp [hn.2 d]

theorem sm_impl (a e sa sh : ByteArray) : impl_SetMatch.f a e sa sh = some (sm_begins e sh && (sa.toList == [] || a.toList == sa.toList)) := by
  unfold impl_SetMatch.f digestset_ZZMatch.f
  rw [sm_check]; rfl

theorem sm_one : wrap64 (0 + 1) = 1 := by unfold wrap64; omega

theorem sm_meant (e sh : ByteArray) (k : Nat) : spec_SetMeantIn.f (k + 2) [e] sh = some (if sm_begins e sh then [e] else []) := by
  unfold spec_SetMeantIn.f
  have r : rdOf ByteArray.empty [e] 0 = e := rfl
  simp only [spec_SetMeantIn.l0, List.length_cons, List.length_nil]
  rw [if_pos (by omega), if_pos (by omega), if_pos (by omega), r, sm_refBegins, sm_one]
  simp only [Option.bind_some]
  cases hb : sm_begins e sh
  · simp
  · simp

theorem FnSetMatch : laws_FnSetMatch.Pure := by
  intro a e sa sh _ _ _ _
  refine ⟨3, ?_⟩
  unfold laws_FnSetMatch.f
  have main : ∀ b, laws_FnSetMatch.j0 3 a e sa sh b = some true := by
    intro b
    simp only [laws_FnSetMatch.j0]
    rw [sm_meant, sm_impl]
    by_cases hb : b = true
    · rw [if_pos hb]
    · rw [if_neg hb]
      by_cases hc : (wrap64 ((wrap64 ((wrap64 ((a.size : Int) + (e.size : Int))) + (sa.size : Int))) + (sh.size : Int))) > 300
      · rw [if_pos hc]
      · rw [if_neg hc]
        simp only [Option.bind_some]
        by_cases h1 : sa.toList = ([] : List UInt8)
        · rw [if_pos h1]
          cases sm_begins e sh <;> simp [h1]
        · rw [if_neg h1]
          by_cases h2 : sa.toList = a.toList
          · rw [if_pos h2]
            cases sm_begins e sh <;> simp [h2]
          · rw [if_neg h2]
            have h3 : a.toList ≠ sa.toList := fun x => h2 x.symm
            simp [h1, h3]
  simp only [main]
  split <;> first | rfl | (split <;> first | rfl | (split <;> rfl))

end Go.Proofs.Ytcmifkepleedmaa.Pure
