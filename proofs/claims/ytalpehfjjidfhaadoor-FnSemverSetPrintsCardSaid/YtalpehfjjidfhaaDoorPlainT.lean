/- What is proved: a version's printed form reads back as itself. -/
import Derived.Test.YtalpehfjjidfhaaDoorHandFit
import Derived.Test.YtalpehfjjidfhaaDoorGoodT
namespace Go.Proofs.YtalpehfjjidfhaaDoor.MS
open Go Go.RowKit Sv Hand
open Go.Proofs.YtalpehfjjidfhaaDoor.MA (tl identB identL digsL okPre validPre)
set_option linter.unusedVariables false
set_option linter.unusedSimpArgs false
theorem dec_eq (n : Nat) : Lib.decDigits n = Sv.dec n := by
  induction n using Nat.strongRecOn with
  | _ n ih =>
  unfold Lib.decDigits Sv.dec
  by_cases h : n < 10
  · rw [dif_pos h, if_pos h]
  · rw [dif_neg h, if_neg h, ih (n / 10) (by omega)]
theorem tl_dec (n : Nat) : tl (dec n) = Sv.dec n := by
  rw [← dec_eq]
  show (Lib.decDigits n).toArray.toList = _
  simp
theorem tl_app (a b : ByteArray) : tl (a ++ b) = tl a ++ tl b := by
  show (a ++ b).data.toList = a.data.toList ++ b.data.toList
  simp
theorem tl_ver (M m t : Nat) (u v : ByteArray) (hu : tl u ≠ []) (hv : tl v ≠ []) : tl (verT M m t u v) = Sv.dec M ++ 46 :: (Sv.dec m ++ 46 :: ((Sv.dec t ++ 45 :: tl u) ++ 43 :: tl v)) := by
  have e1 : ∀ c : UInt8, tl ⟨#[c]⟩ = [c] := fun _ => rfl
  have e2 : ∀ x : ByteArray, tl x ≠ [] → ¬ x.toList.isEmpty = true := by
    intro x hx
    rw [ByteArray.toList_eq]
    show ¬ (tl x).isEmpty = true
    cases h : tl x with
    | nil => exact absurd h hx
    | cons _ _ => simp
  unfold verT preT numT
  rw [if_neg (e2 v hv), if_neg (e2 u hu)]
  simp only [tl_app, tl_dec, e1, List.append_assoc, List.cons_append, List.nil_append]
theorem numB_dec (n : Nat) (h : n < 18446744073709551616) : numB (Sv.dec n) = some n := by
  unfold numB
  rw [if_pos ⟨dec_dig n, dec_plain n⟩, num_dig (dec_dig n) (dec_ne n), dec_val, if_pos (by omega)]
theorem split_chars (l : List UInt8) (h : ∀ x ∈ splitD l, x.all identB = true) : ∀ c ∈ l, c = 46 ∨ identB c = true := by
  induction l with
  | nil => intro c hc; cases hc
  | cons a r ih =>
    rw [splitD_cons] at h
    by_cases ha : a = 46
    · rw [if_pos ha] at h
      intro c hc
      rcases List.mem_cons.1 hc with rfl | hc
      · exact .inl ha
      · exact ih (fun x hx => h x (List.mem_cons_of_mem _ hx)) c hc
    · rw [if_neg ha] at h
      obtain ⟨y, ys, e⟩ : ∃ y ys, splitD r = y :: ys := by
        cases e : splitD r with
        | nil => exact absurd e (splitD_ne r)
        | cons y ys => exact ⟨y, ys, rfl⟩
      rw [e] at h ih
      have h0 := h (a :: y) (by show _ ∈ (a :: y) :: ys; simp)
      rw [List.all_cons, Bool.and_eq_true] at h0
      intro c hc
      rcases List.mem_cons.1 hc with rfl | hc
      · exact .inr h0.1
      · refine ih (fun x hx => ?_) c hc
        rcases List.mem_cons.1 hx with rfl | hx
        · exact h0.2
        · exact h x (by show _ ∈ (a :: y) :: ys; exact List.mem_cons_of_mem _ hx)
theorem okPre_chars (x : List UInt8) (h : okPre x = true) : x.all identB = true := by
  unfold okPre identL at h
  simp only [Bool.and_eq_true] at h
  exact h.1.1
theorem code_ver (M m t : Nat) (u v : List UInt8) (hM : M < 18446744073709551616) (hm : m < 18446744073709551616) (ht : t < 18446744073709551616) (hu : validP u = true) (hv : validM v = true) :
    codeV (Sv.dec M ++ 46 :: (Sv.dec m ++ 46 :: ((Sv.dec t ++ 45 :: u) ++ 43 :: v))) = some ⟨M, m, t, u, v⟩ := by
  have n46 : ∀ n, (46 : UInt8) ∉ Sv.dec n := fun n => dig_not (dec_dig n) (by decide)
  have hu43 : (43 : UInt8) ∉ u := by
    intro h
    have := split_chars u (fun x hx => okPre_chars x (List.all_eq_true.1 hu x hx)) 43 h
    revert this; decide
  have hn43 : (43 : UInt8) ∉ Sv.dec t ++ 45 :: u := by
    intro h
    rcases List.mem_append.1 h with h | h
    · exact dig_not (dec_dig t) (by decide) h
    · rcases List.mem_cons.1 h with h | h
      · revert h; decide
      · exact hu43 h
  have c43 := cut_app (c := 43) v hn43
  have c45 := cut_app (c := 45) (a := Sv.dec t) u (dig_not (dec_dig t) (by decide))
  unfold codeV
  rw [cut_app _ (n46 M)]
  dsimp only
  rw [cut_app _ (n46 m)]
  dsimp only
  unfold has core tail
  rw [c43]
  dsimp only
  rw [c45]
  dsimp only
  rw [hu, hv]
  simp only [Option.isSome_some, Bool.true_eq_false, and_false, if_false]
  unfold parts3
  rw [numB_dec M hM, numB_dec m hm, numB_dec t ht]
theorem read_ver (M m t : Nat) (u v : ByteArray) (hM : M < 18446744073709551616) (hm : m < 18446744073709551616) (ht : t < 18446744073709551616) (hu0 : tl u ≠ []) (hv0 : tl v ≠ []) (hu : validP (tl u) = true) (hv : validM (tl v) = true)
    (hs : (verT M m t u v).size ≤ 256) : readV (tl (verT M m t u v)) = some ⟨M, m, t, tl u, tl v⟩ := by
  have hz : (verT M m t u v).size = (tl (verT M m t u v)).length := size_data _
  unfold readV
  rw [if_pos (by omega), tl_ver M m t u v hu0 hv0, ← code_spec]
  exact code_ver M m t _ _ hM hm ht hu hv
end Go.Proofs.YtalpehfjjidfhaaDoor.MS
