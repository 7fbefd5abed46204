/- What is proved: FnSemverPreKindJoin gives true: the first wrong identifier of two prereleases with a dot between them decides. -/
import Derived.Test.YtalpehfjjidfhaaDoorMKx1
namespace Go.Proofs.YtalpehfjjidfhaaDoor.MK
open Go Go.RowKit Sv Hand MS Is
open Go.Proofs.YtalpehfjjidfhaaDoorW.PrintWords
open Go.Proofs.YtalpehfjjidfhaaDoor.MA (tl)
set_option linter.unusedVariables false
set_option linter.unusedSimpArgs false
theorem svShort1 (x : ByteArray) (k : Nat) (hk : 2 ≤ k) : MS.laws_svShort.f k [x] = some (decide (x.size ≤ 65536)) := by
  obtain ⟨k, rfl⟩ : ∃ k', k = k' + 2 := ⟨k - 2, by omega⟩
  unfold MS.laws_svShort.f MS.laws_svShort.l0
  rw [if_pos (by simp), if_pos (by omega), if_pos (by simp)]
  have e : rdOf ByteArray.empty [x] 0 = x := rfl
  rw [e]
  by_cases h : (x.size : Int) > 65536
  · rw [if_pos h, decide_eq_false (by omega)]
  · rw [if_neg h, decide_eq_true (by omega)]
    unfold MS.laws_svShort.l0
    have e2 : wrap64 (0 + 1) = 1 := by unfold wrap64; omega
    have e3 : (([x].length : Nat) : Int) = 1 := rfl
    rw [e2, e3, if_neg (by omega)]
theorem firstK_app (f : ByteArray → Nat) (l m : List ByteArray) : firstK f (l ++ m) = if firstK f l = 0 then firstK f m else firstK f l := by
  induction l with
  | nil => simp [firstK]
  | cons x r ih =>
    have e : ∀ q, firstK f (x :: q) = if f x = 0 then firstK f q else f x := fun q => rfl
    rw [List.cons_append, e, e]
    by_cases h : f x = 0
    · rw [if_pos h, if_pos h, ih]
    · rw [if_neg h, if_neg h, if_neg h]
theorem tl_app (a b : ByteArray) : tl (a ++ b) = tl a ++ tl b := by
  unfold tl
  simp
theorem bs_app (l m : List (List UInt8)) : bs (l ++ m) = bs l ++ bs m := by unfold bs; rw [List.map_append]
theorem kind_join (a b : ByteArray) : preKind (a ++ ⟨#[46]⟩ ++ b) = if preKind a = 0 then preKind b else preKind a := by
  unfold preKind
  have e : tl (a ++ ⟨#[46]⟩ ++ b) = tl a ++ 46 :: tl b := by rw [tl_app, tl_app, List.append_assoc]; rfl
  rw [e, splitD_app, bs_app, firstK_app]
theorem kind_zeros : preKind ⟨#[48, 48]⟩ = 4 := by decide
theorem kind_none : preKind ⟨#[]⟩ = 5 := by decide
theorem pk (x : ByteArray) (h : x.size ≤ 65600) : PreKind.f x = some (preKind x : Int) := by unfold PreKind.f; rw [if_pos h]
theorem preKindJoin : laws_FnSemverPreKindJoin.Pure := by
  intro a b ha hb
  refine ⟨10, ?_⟩
  have tr : laws_FnSemverPreKindJoin.j0 10 a b true = some true := by
    rw [laws_FnSemverPreKindJoin.j0, if_pos rfl]
  have main : laws_FnSemverPreKindJoin.j0 10 a b false = some true := by
    rw [laws_FnSemverPreKindJoin.j0, if_neg (by decide), if_pos (by omega), svShort1 _ 9 (by omega), Option.bind_some]
    have hs : (a ++ b).size = a.size + b.size := ByteArray.size_append
    by_cases h : (a ++ b).size ≤ 65536
    · rw [decide_eq_true h, if_pos rfl]
      have z1 : (⟨#[46]⟩ : ByteArray).size = 1 := rfl
      have s1 : (a ++ ⟨#[46]⟩).size = a.size + 1 := by rw [ByteArray.size_append, z1]
      have s2 : (a ++ ⟨#[46]⟩ ++ b).size = a.size + 1 + b.size := by rw [ByteArray.size_append, s1]
      have hj := kind_join a b
      rw [pk a (by omega), pk b (by omega), pk (a ++ ⟨#[46]⟩ ++ b) (by omega), pk ⟨#[48, 48]⟩ (by decide), pk ⟨#[]⟩ (by decide), kind_zeros, kind_none]
      simp only [Option.bind_some]
      by_cases hk : preKind a = 0
      · rw [if_pos hk] at hj
        rw [if_pos (by omega), if_pos (by omega), if_pos (by omega), hj, if_pos rfl, if_pos (by decide)]
        rfl
      · rw [if_neg hk] at hj
        rw [if_neg (by omega), if_pos (by omega), if_pos (by omega), hj, if_pos rfl, if_pos (by decide)]
        rfl
    · rw [decide_eq_false h, if_neg (by decide)]
  unfold laws_FnSemverPreKindJoin.f
  split
  · exact tr
  · cases decide ((b.size : Int) > 2147483647)
    · exact main
    · exact tr
end Go.Proofs.YtalpehfjjidfhaaDoor.MK
