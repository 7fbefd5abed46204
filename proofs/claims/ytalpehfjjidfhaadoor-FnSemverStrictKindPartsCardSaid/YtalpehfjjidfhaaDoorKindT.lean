/- What is proved: FnSemverStrictKindParts gives true: its plain law and its walk joined. -/
import Derived.Test.YtalpehfjjidfhaaDoorKindS
namespace Go.Proofs.YtalpehfjjidfhaaDoor.MY
open Go Go.RowKit Sv Hand MS Is
open Go.Proofs.YtalpehfjjidfhaaDoorW.PrintWords
open Go.Proofs.YtalpehfjjidfhaaDoor.MA (tl digsL)
set_option linter.unusedVariables false
set_option linter.unusedSimpArgs false
theorem tl_app (a b : ByteArray) : tl (a ++ b) = tl a ++ tl b := by
  unfold tl
  simp
theorem numKind_f (x : ByteArray) (hx : x.size < 4611686018427387900) (k : Nat) (hk : x.size < k) : spec_NumberKind.f k x = some ((segK (tl x) : Nat) : Int) := by
  unfold spec_NumberKind.f
  by_cases h0 : x.toList = []
  · rw [if_pos h0]
    have : tl x = [] := by rw [ByteArray.toList_eq] at h0; exact h0
    rw [this]
    rfl
  · rw [if_neg h0, Digits_f x hx k hk, Option.bind_some]
    have hne : tl x ≠ [] := by rw [ByteArray.toList_eq] at h0; exact h0
    have hl : (tl x).length = x.size := (size_data x).symm
    have hpos : 0 < x.size := by rw [← hl]; exact List.length_pos_iff.2 hne
    have hd : digsL (tl x) = (tl x).all dig := by
      unfold MA.digsL
      cases e : tl x with
      | nil => exact absurd e hne
      | cons a b => simp
    rw [hd]
    unfold segK zeroL
    by_cases ha : (tl x).all dig = true
    · rw [if_pos ha, if_pos ha, hl]
      by_cases h1 : (x.size : Int) > 1
      · rw [if_pos h1, if_pos (by omega), decide_eq_true (show 1 < x.size by omega), Bool.true_and]
        by_cases h2 : Go.Proofs.YtalpehfjjidfhaaDoorW.PrintWords.bt x 0 = 48
        · rw [if_pos h2, if_pos (by rw [decide_eq_true_eq]; exact (zero_bt x hpos).1 h2)]; rfl
        · rw [if_neg h2, if_neg (by rw [decide_eq_true_eq]; exact fun h => h2 ((zero_bt x hpos).2 h))]; rfl
      · rw [if_neg h1, decide_eq_false (show ¬ 1 < x.size by omega), Bool.false_and, if_neg (by decide)]; rfl
    · rw [if_neg ha, if_neg ha]; rfl
theorem number_f (x : ByteArray) (hx : x.size < 4611686018427387900) (k : Nat) (hk : x.size < k) : ∃ v : Int, MS.spec_Number.f k x = some (v, smallB (tl x)) := by
  rw [Number_f x hx k hk]
  unfold smallB
  cases (if digsL (tl x) = true then num? (tl x) else none) with
  | none => exact ⟨0, rfl⟩
  | some n => exact ⟨n, rfl⟩
theorem tl_tx (n0 n1 n2 pre mt : ByteArray) (hy pl : Bool) : tl (tx2 n0 n1 n2 pre mt hy pl) = LL (tl n0) (tl n1) (tl n2) (tl pre) (tl mt) hy pl := by
  have e46 : tl ⟨#[46]⟩ = [46] := rfl
  have e45 : tl ⟨#[45]⟩ = [45] := rfl
  have e43 : tl ⟨#[43]⟩ = [43] := rfl
  unfold tx2 tx1 tx0 LL L2 L1
  cases hy <;> cases pl <;> simp [tl_app, e46, e45, e43]
theorem kd_KL (pre mt : ByteArray) (hy pl : Bool) : kd2 pre mt hy pl = KL (tl pre) (tl mt) hy pl := rfl
theorem kindParts_walk (n0 n1 n2 : ByteArray) (hy pl : Bool) (pre mt : ByteArray) (w : World) (hG : GlN w) :
    Calls Tryd.prog 11 #[.agg #[.string n0, .string n1, .string n2], .bool hy, .bool pl, .string pre, .string mt] w fun e w' => e = .returned (.bool true) ∧ Below w.heap.size w w' := by
  by_cases hb : fits n0 n1 n2 = false ∨ 2147483647 < pre.size ∨ 2147483647 < mt.size
  · exact early n0 n1 n2 pre mt hy pl w hb
  have hf : fits n0 n1 n2 = true := by cases h : fits n0 n1 n2; exact absurd (Or.inl h) hb; rfl
  have hp : pre.size ≤ 2147483647 := by
    rcases Nat.lt_or_ge 2147483647 pre.size with h | h
    · exact absurd (Or.inr (Or.inl h)) hb
    · exact h
  have hm : mt.size ≤ 2147483647 := by
    rcases Nat.lt_or_ge 2147483647 mt.size with h | h
    · exact absurd (Or.inr (Or.inr h)) hb
    · exact h
  have h3 : n0.size ≤ 2147483647 ∧ n1.size ≤ 2147483647 ∧ n2.size ≤ 2147483647 := by unfold fits at hf; simpa using hf
  obtain ⟨s0, s1, s2⟩ := h3
  obtain ⟨k, hk⟩ : ∃ k : Nat, 4294967296 < k := ⟨4294967297, by omega⟩
  obtain ⟨v0, m0⟩ := number_f n0 (by omega) k (by omega)
  obtain ⟨v1, m1⟩ := number_f n1 (by omega) k (by omega)
  obtain ⟨v2, m2⟩ := number_f n2 (by omega) k (by omega)
  have hz := tx1_size n0 n1 n2 pre hy s0 s1 s2 hp
  have hT : (tx2 n0 n1 n2 pre mt hy pl).size ≤ 100000000000 := by
    unfold tx2
    have z43 : (⟨#[43]⟩ : ByteArray).size = 1 := rfl
    split
    · simp only [ByteArray.size_append, z43]; omega
    · omega
  refine main_walk n0 n1 n2 pre mt hy pl k w hG hf hp hm _ _ _ _ _ _ _ _ _ _ _ _ v0 v1 v2 ((strictK (tl (tx2 n0 n1 n2 pre mt hy pl)) : Nat) : Int)
    (svHas_f pre 43 (by omega) k (by omega)) (svHas_f n2 45 (by omega) k (by omega)) (svHas_f n2 43 (by omega) k (by omega))
    (svHas_f n0 46 (by omega) k (by omega)) (svHas_f n1 46 (by omega) k (by omega)) (svHas_f n2 46 (by omega) k (by omega))
    (numKind_f n0 (by omega) k (by omega)) (numKind_f n1 (by omega) k (by omega)) (numKind_f n2 (by omega) k (by omega)) m0 m1 m2
    (by unfold StrictKind.f; rw [if_pos hT]) ?_ ?_
  · unfold StrictKind.f
    rw [if_pos (by decide)]
    rfl
  · intro hl b1 b2 b3 d0 d1 d2
    have hlen : (LL (tl n0) (tl n1) (tl n2) (tl pre) (tl mt) hy pl).length ≤ 256 := by
      rw [← tl_tx, ← size_data]; exact hl
    rw [tl_tx, kd_KL]
    exact strict_parts _ _ _ _ _ hy pl (of_decide_eq_false d0) (of_decide_eq_false d1) (of_decide_eq_false b2) (of_decide_eq_false b3) (of_decide_eq_false b1) hlen
end Go.Proofs.YtalpehfjjidfhaaDoor.MY
