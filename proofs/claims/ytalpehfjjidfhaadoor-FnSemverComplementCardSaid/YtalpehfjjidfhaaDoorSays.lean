/- What is proved, in plain Lean: what a term says by the code is what its type means. -/
import Derived.Test.YtalpehfjjidfhaaDoorHandC8
import Derived.Test.YtalpehfjjidfhaaDoorHandN
namespace Go.Proofs.YtalpehfjjidfhaaDoor.Hand
set_option linter.unusedVariables false
set_option linter.unusedSimpArgs false
theorem seg0 (a b : Int) : seg a b = 0 ↔ a = b := by
  unfold seg; split
  · omega
  · split <;> omega
theorem seg_le (a b : Int) : seg a b ≤ 0 ↔ a ≤ b := by
  unfold seg; split
  · omega
  · split <;> omega
theorem seg_gt (a b : Int) : seg a b > 0 ↔ b < a := by
  unfold seg; split
  · omega
  · split <;> omega
/-- How many numbers a caret holds fast. -/
def caretN (M m t g : Int) : Int := if M ≠ 0 then 1 else if m ≠ 0 then 2 else if t ≠ 0 then 3 else g
/-- What a term says, by its published meaning; c: how the version compares with the term's. -/
def meansB (op g c M1 m1 t1 M2 m2 t2 : Int) : Bool :=
  if op = 0 then decide ((if g = 3 then c else cnumI M1 m1 t1 M2 m2 t2 g) = 0) && (decide (g = 3) || decide (c ≥ 0))
  else if op = 1 then decide ((if g = 3 then c else cnumI M1 m1 t1 M2 m2 t2 g) ≠ 0)
  else if op = 2 then decide ((if g = 3 then c else cnumI M1 m1 t1 M2 m2 t2 g) > 0)
  else if op = 3 then decide (c < 0)
  else if op = 4 then decide (c ≥ 0)
  else if op = 5 then decide ((if g = 3 then c else cnumI M1 m1 t1 M2 m2 t2 g) ≤ 0)
  else if op = 6 then decide (c ≥ 0) && decide (cnumI M1 m1 t1 M2 m2 t2 (min 2 g) = 0)
  else decide (c ≥ 0) && decide (cnumI M1 m1 t1 M2 m2 t2 (caretN M2 m2 t2 g) = 0)
theorem num_0 (M m t M' m' t' : Int) : cnumI M m t M' m' t' 0 = 0 := rfl
theorem num_1 (M m t M' m' t' : Int) : cnumI M m t M' m' t' 1 = seg M M' := rfl
theorem num_2 (M m t M' m' t' : Int) : cnumI M m t M' m' t' 2 = if seg M M' = 0 then seg m m' else seg M M' := rfl
theorem num_3 (M m t M' m' t' : Int) : cnumI M m t M' m' t' 3 = if seg M M' = 0 then (if seg m m' = 0 then seg t t' else seg m m') else seg M M' := rfl
theorem num2_0 (M m t M' m' t' : Int) : cnumI M m t M' m' t' 2 = 0 ↔ M = M' ∧ m = m' := by
  rw [num_2]; split
  · rename_i h; rw [seg0] at h ⊢; exact ⟨fun h' => ⟨h, h'⟩, fun h' => h'.2⟩
  · rename_i h; rw [seg0] at h ⊢; exact ⟨fun h' => absurd h' h, fun h' => h'.1⟩
theorem num2_le (M m t M' m' t' : Int) : cnumI M m t M' m' t' 2 ≤ 0 ↔ M < M' ∨ (M = M' ∧ m ≤ m') := by
  rw [num_2]; split
  · rename_i h; rw [seg0] at h; rw [seg_le]; omega
  · rename_i h; rw [seg0] at h; rw [seg_le]; omega
theorem num2_gt (M m t M' m' t' : Int) : cnumI M m t M' m' t' 2 > 0 ↔ M' < M ∨ (M = M' ∧ m' < m) := by
  rw [num_2]; split
  · rename_i h; rw [seg0] at h; rw [seg_gt]; omega
  · rename_i h; rw [seg0] at h; rw [seg_gt]; omega
theorem num3_0 (M m t M' m' t' : Int) : cnumI M m t M' m' t' 3 = 0 ↔ M = M' ∧ m = m' ∧ t = t' := by
  rw [num_3]; split
  · rename_i h; rw [seg0] at h; split
    · rename_i h2; rw [seg0] at h2 ⊢; exact ⟨fun h' => ⟨h, h2, h'⟩, fun h' => h'.2.2⟩
    · rename_i h2; rw [seg0] at h2 ⊢; exact ⟨fun h' => absurd h' h2, fun h' => h'.2.1⟩
  · rename_i h; rw [seg0] at h ⊢; exact ⟨fun h' => absurd h' h, fun h' => h'.1⟩
theorem says_means (op g c pc M1 m1 t1 M2 m2 t2 : Int) (e1 e2 : Bool) (hc : c = -1 ∨ c = 0 ∨ c = 1) (p1 : 0 ≤ M1) (p2 : 0 ≤ m1) (p3 : 0 ≤ t1) (p4 : 0 ≤ M2) (p5 : 0 ≤ m2) (p6 : 0 ≤ t2)
    (h0 : g = 0 → op = 0 ∨ op = 4 ∨ op = 6) (h3 : g = 3 → op = 6 → ¬ (M2 = 0 ∧ m2 = 0 ∧ t2 = 0)) (ho : 0 ≤ op ∧ op < 8) (hg : 0 ≤ g ∧ g ≤ 3)
    (g3 : g < 3 → t2 = 0 ∧ e2 = true) (g2 : g < 2 → m2 = 0) (g1 : g < 1 → M2 = 0) (hn : op = 1 → g = 2 → e1 = true) :
    saysB op c pc M1 m1 t1 e1 M2 m2 t2 e2 (decide (g < 3)) (g == 1) (g == 2) = meansB op g c M1 m1 t1 M2 m2 t2 := by
  rw [Bool.eq_iff_iff]
  rcases (show g = 0 ∨ g = 1 ∨ g = 2 ∨ g = 3 by omega) with rfl | rfl | rfl | rfl
  · obtain ⟨rfl, rfl⟩ := g3 (by omega)
    obtain rfl := g2 (by omega)
    obtain rfl := g1 (by omega)
    rcases h0 rfl with rfl | rfl | rfl <;> simp [saysB, meansB, equalB, tildeB, num_0, show min (2 : Int) 0 = 0 from rfl]
  · obtain ⟨rfl, rfl⟩ := g3 (by omega)
    obtain rfl := g2 (by omega)
    rcases (show op = 0 ∨ op = 1 ∨ op = 2 ∨ op = 3 ∨ op = 4 ∨ op = 5 ∨ op = 6 ∨ op = 7 by omega) with rfl | rfl | rfl | rfl | rfl | rfl | rfl | rfl
    · simp [saysB, meansB, equalB, tildeB, num_1, seg0]; omega
    · simp [saysB, meansB, notB, num_1, seg0]; omega
    · simp [saysB, meansB, aboveB, num_1, seg_gt]
    · simp [saysB, meansB]
    · simp [saysB, meansB]
    · simp [saysB, meansB, mostB, num_1, seg_le]
    · simp [saysB, meansB, tildeB, num_1, seg0, show min (2 : Int) 1 = 1 from rfl]
    · by_cases hM : M2 = 0 <;> simp [saysB, meansB, caretB, caretN, num_1, seg0, hM]
  · obtain ⟨rfl, rfl⟩ := g3 (by omega)
    rcases (show op = 0 ∨ op = 1 ∨ op = 2 ∨ op = 3 ∨ op = 4 ∨ op = 5 ∨ op = 6 ∨ op = 7 by omega) with rfl | rfl | rfl | rfl | rfl | rfl | rfl | rfl
    · simp [saysB, meansB, equalB, tildeB, num2_0]; omega
    · have he := hn rfl rfl
      subst he
      simp [saysB, meansB, notB, num2_0]; omega
    · simp [saysB, meansB, aboveB, num2_gt]; omega
    · simp [saysB, meansB]
    · simp [saysB, meansB]
    · simp [saysB, meansB, mostB, num2_le]; omega
    · simp [saysB, meansB, tildeB, num2_0, show min (2 : Int) 2 = 2 from rfl]
    · by_cases hM : M2 = 0
      · by_cases hm : m2 = 0
        · subst hM; subst hm
          simp [saysB, meansB, caretB, caretN, num2_0]; omega
        · subst hM
          have : 0 < m2 := by omega
          simp [saysB, meansB, caretB, caretN, num2_0, hm]; omega
      · have : 0 < M2 := by omega
        simp [saysB, meansB, caretB, caretN, num_1, seg0, hM, this]
  · rcases (show op = 0 ∨ op = 1 ∨ op = 2 ∨ op = 3 ∨ op = 4 ∨ op = 5 ∨ op = 6 ∨ op = 7 by omega) with rfl | rfl | rfl | rfl | rfl | rfl | rfl | rfl
    · simp [saysB, meansB, equalB]
    · simp [saysB, meansB, notB]
    · simp [saysB, meansB, aboveB]; omega
    · simp [saysB, meansB]
    · simp [saysB, meansB]
    · simp [saysB, meansB, mostB]
    · have := h3 rfl rfl
      simp [saysB, meansB, tildeB, num2_0, show min (2 : Int) 3 = 2 from rfl]; omega
    · by_cases hM : M2 = 0
      · by_cases hm : m2 = 0
        · by_cases ht : t2 = 0
          · subst hM; subst hm; subst ht
            simp [saysB, meansB, caretB, caretN, num3_0]; omega
          · subst hM; subst hm
            simp [saysB, meansB, caretB, caretN, num3_0, ht]; omega
        · subst hM
          have : 0 < m2 := by omega
          simp [saysB, meansB, caretB, caretN, num2_0, hm, this]; omega
      · have : 0 < M2 := by omega
        simp [saysB, meansB, caretB, caretN, num_1, seg0, hM, this]
end Go.Proofs.YtalpehfjjidfhaaDoor.Hand
