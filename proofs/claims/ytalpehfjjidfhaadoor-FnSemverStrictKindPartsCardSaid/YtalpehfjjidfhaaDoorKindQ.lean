/- What is proved: the plain law of FnSemverStrictKindParts: its helpers as plain functions. -/
import Derived.Test.YtalpehfjjidfhaaDoorPartY
namespace Go.Proofs.YtalpehfjjidfhaaDoor.MY
open Go Go.RowKit Sv Hand MS Is
open Go.Proofs.YtalpehfjjidfhaaDoorW.PrintWords
open Go.Proofs.YtalpehfjjidfhaaDoor.MA (tl)
set_option linter.unusedVariables false
set_option linter.unusedSimpArgs false
theorem w64 {i : Int} (h0 : 0 ≤ i) (h : i < 9223372036854775807) : wrap64 (i + 1) = i + 1 := by unfold wrap64; omega
theorem one_byte (x : ByteArray) (i : Nat) (h : i < x.size) : x.extract i (i + 1) = ⟨#[x[i]]⟩ := by
  apply ByteArray.ext
  rw [ByteArray.data_extract]
  apply Array.ext
  · have : x.data.size = x.size := rfl
    simp; omega
  · intro j h1 h2
    have : j = 0 := by simp at h2; omega
    subst this
    simp
    rfl
theorem svBytes_l0 (x : ByteArray) (hx : x.size < 8796093022200) : ∀ (n i k : Nat) (acc : List ByteArray), x.size - i = n → i ≤ x.size → acc.length = i → n < k →
    laws_svBytes.l0 k x acc i = some (acc ++ ((tl x).drop i).map fun c => ⟨#[c]⟩) := by
  intro n
  induction n with
  | zero =>
    intro i k acc hn hi ha hk
    obtain ⟨k, rfl⟩ : ∃ m, k = m + 1 := ⟨k - 1, by omega⟩
    rw [laws_svBytes.l0, if_neg (by omega)]
    have : (tl x).drop i = [] := List.drop_eq_nil_of_le (by have : (tl x).length = x.size := (size_data x).symm; omega)
    rw [this]; simp
  | succ n ih =>
    intro i k acc hn hi ha hk
    obtain ⟨k, rfl⟩ : ∃ m, k = m + 1 := ⟨k - 1, by omega⟩
    have hlt : i < x.size := by omega
    rw [laws_svBytes.l0, w64 (by omega) (by omega), if_pos (by omega), if_pos (by omega), if_pos (by omega), if_pos (by omega), if_pos (by omega)]
    have e1 : ((i : Int) + 1).toNat = i + 1 := by omega
    have e2 : ((i : Int)).toNat = i := rfl
    rw [e1, e2, one_byte x i hlt, show ((i : Int) + 1) = ((i + 1 : Nat) : Int) by omega, ih (i + 1) k _ (by omega) (by omega) (by simp [ha]) (by omega)]
    have hd : (tl x).drop i = x[i] :: (tl x).drop (i + 1) := by
      have hl : i < (tl x).length := by rw [← size_data]; exact hlt
      rw [List.drop_eq_getElem_cons hl]
      rfl
    rw [hd]
    simp
theorem svFind_l0 (c : UInt8) (l : List UInt8) (hl : l.length < 8796093022208) : ∀ (n i k : Nat), l.length - i = n → i ≤ l.length → n < k →
    ∃ r : Int, laws_svFind.l0 k ⟨#[c]⟩ (l.map fun c => (⟨#[c]⟩ : ByteArray)) (l.length : Int) i = some r ∧ (0 ≤ r ↔ c ∈ l.drop i) := by
  intro n
  induction n with
  | zero =>
    intro i k hn hi hk
    obtain ⟨k, rfl⟩ : ∃ m, k = m + 1 := ⟨k - 1, by omega⟩
    refine ⟨-1, by rw [laws_svFind.l0, if_neg (by omega)], ?_⟩
    rw [List.drop_eq_nil_of_le (by omega)]
    simp
  | succ n ih =>
    intro i k hn hi hk
    obtain ⟨k, rfl⟩ : ∃ m, k = m + 1 := ⟨k - 1, by omega⟩
    have hlt : i < l.length := by omega
    have hr : rdOf ByteArray.empty (l.map fun c => (⟨#[c]⟩ : ByteArray)) (i : Int) = ⟨#[l[i]]⟩ := by
      unfold rdOf
      simp [hlt]
    have ht : ∀ d : UInt8, (⟨#[d]⟩ : ByteArray).toList = [d] := fun d => by rw [ByteArray.toList_eq]
    rw [List.drop_eq_getElem_cons hlt]
    rw [laws_svFind.l0, if_pos (by omega), if_pos (by omega), if_pos (by simp; omega), hr, ht, ht]
    by_cases h : l[i] = c
    · rw [if_pos (by rw [h])]
      exact ⟨i, rfl, by simp [h]⟩
    · rw [if_neg (by simpa using h), w64 (by omega) (by omega)]
      obtain ⟨r, h1, h2⟩ := ih (i + 1) k (by omega) (by omega) (by omega)
      refine ⟨r, by rw [← h1]; rfl, ?_⟩
      rw [h2, List.mem_cons]
      constructor
      · exact Or.inr
      · rintro (h3 | h3)
        · exact absurd h3.symm h
        · exact h3
theorem svHas_f (a : ByteArray) (c : UInt8) (ha : a.size < 8796093022200) (k : Nat) (hk : a.size < k) : laws_svHas.f k a ⟨#[c]⟩ = some (decide (c ∈ tl a)) := by
  have h1 := svBytes_l0 a ha a.size 0 k [] (by omega) (by omega) rfl hk
  simp only [List.nil_append, List.drop_zero] at h1
  have hl : (tl a).length = a.size := (size_data a).symm
  obtain ⟨r, h2, h3⟩ := svFind_l0 c (tl a) (by omega) (tl a).length 0 k (by omega) (by omega) (by omega)
  unfold laws_svHas.f laws_svBytes.f laws_svFind.f
  have e0 : ((0 : Nat) : Int) = 0 := rfl
  rw [e0] at h1 h2
  rw [h1, Option.bind_some, List.length_map, h2, Option.bind_some]
  rw [List.drop_zero] at h3
  have : decide (r ≥ 0) = decide (c ∈ tl a) := by rw [decide_eq_decide]; exact h3
  rw [this]
end Go.Proofs.YtalpehfjjidfhaaDoor.MY
