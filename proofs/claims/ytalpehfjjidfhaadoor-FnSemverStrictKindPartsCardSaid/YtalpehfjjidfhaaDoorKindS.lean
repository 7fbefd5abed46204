/- What is proved: FnSemverStrictKindParts gives true: its plain law, joined with its walk. -/
import Derived.Test.YtalpehfjjidfhaaDoorKindR
namespace Go.Proofs.YtalpehfjjidfhaaDoor.MY
open Go Go.RowKit Sv Hand MS Is
open Go.Proofs.YtalpehfjjidfhaaDoorW.PrintWords
open Go.Proofs.YtalpehfjjidfhaaDoor.MA (tl digsL)
set_option linter.unusedVariables false
set_option linter.unusedSimpArgs false
def L1 (c p : List UInt8) (hy : Bool) : List UInt8 := if hy = true then c ++ 45 :: p else c
def L2 (c p m : List UInt8) (hy pl : Bool) : List UInt8 := if pl = true then L1 c p hy ++ 43 :: m else L1 c p hy
def LL (a b c p m : List UInt8) (hy pl : Bool) : List UInt8 := a ++ 46 :: (b ++ 46 :: L2 c p m hy pl)
def pkL (p : List UInt8) : Nat := firstK preK (bs (splitD p))
def mkL (m : List UInt8) : Nat := firstK metaK (bs (splitD m))
def KL (p m : List UInt8) (hy pl : Bool) : Int := if pl = true ∧ mkL m ≠ 0 then (mkL m : Nat) else if hy = true then (pkL p : Nat) else 0
theorem has_cut {c : UInt8} {l x y : List UInt8} (h : cut c l = some (x, y)) : has c l = true ∧ core c l = x ∧ tail c l = y := by
  unfold has core tail
  rw [h]
  exact ⟨rfl, rfl, rfl⟩
theorem has_no' {c : UInt8} {l : List UInt8} (h : c ∉ l) : has c l = false ∧ core c l = l ∧ tail c l = [] := by
  unfold has core tail
  rw [cut_none.2 h]
  exact ⟨rfl, rfl, rfl⟩
theorem preR_rk (a b c p v : List UInt8) (hy : Bool) (h45 : (45 : UInt8) ∉ c) :
    (rk (preR a b (L1 c p hy) v) : Int) = sk (sk (sk (nk (nk (nk (if hy = true then (pkL p : Nat) else 0) (segK a)) (segK b)) (segK c)) (smallB a)) (smallB b)) (smallB c) := by
  unfold preR
  cases hy with
  | false =>
    obtain ⟨h1, h2, h3⟩ := has_no' h45
    have hl : L1 c p false = c := rfl
    rw [hl, h1, h2, h3, if_neg (fun h => by cases h.1), rk_segs]
    rfl
  | true =>
    have hl : L1 c p true = c ++ 45 :: p := rfl
    obtain ⟨h1, h2, h3⟩ := has_cut (cut_app p h45)
    rw [hl, h1, h2, h3]
    by_cases hk : pkL p = 0
    · rw [if_neg (fun h => h.2 hk), rk_segs, if_pos rfl, hk]
      rfl
    · rw [if_pos ⟨rfl, hk⟩, if_pos rfl]
      have hi : ((pkL p : Nat) : Int) ≠ 0 := by omega
      rw [all_ne hi]
      have hv := firstK_vals (f := preK) (bs (splitD p)) preK_vals
      show ((kn (pkL p) : Nat) : Int) = _
      have : kn (pkL p) = pkL p := by unfold kn; rw [if_pos (by unfold pkL; omega)]
      rw [this]
theorem metaR_rk (a b c p m : List UInt8) (hy pl : Bool) (h45 : (45 : UInt8) ∉ c) (h43 : (43 : UInt8) ∉ c) (hp : (43 : UInt8) ∉ p) :
    (rk (metaR a b (L2 c p m hy pl)) : Int) = sk (sk (sk (nk (nk (nk (KL p m hy pl) (segK a)) (segK b)) (segK c)) (smallB a)) (smallB b)) (smallB c) := by
  have h1 : (43 : UInt8) ∉ L1 c p hy := by
    unfold L1
    split
    · simp [h43, hp]
    · exact h43
  unfold metaR KL
  cases pl with
  | false =>
    have hl : L2 c p m hy false = L1 c p hy := rfl
    obtain ⟨e1, e2, e3⟩ := has_no' h1
    rw [hl, e1, e2, e3, if_neg (fun h => by cases h.1), if_neg (fun h => by cases h.1), preR_rk _ _ _ _ _ _ h45]
  | true =>
    have hl : L2 c p m hy true = L1 c p hy ++ 43 :: m := rfl
    obtain ⟨e1, e2, e3⟩ := has_cut (cut_app m h1)
    rw [hl, e1, e2, e3]
    by_cases hk : mkL m = 0
    · rw [if_neg (fun h => h.2 hk), if_neg (fun h => h.2 hk), preR_rk _ _ _ _ _ _ h45]
    · rw [if_pos ⟨rfl, hk⟩, if_pos ⟨rfl, hk⟩]
      have hi : ((mkL m : Nat) : Int) ≠ 0 := by omega
      rw [all_ne hi]
      have hv := firstM_vals (bs (splitD m))
      show ((kn (mkL m) : Nat) : Int) = _
      have : kn (mkL m) = mkL m := by unfold kn; rw [if_pos (by unfold mkL; omega)]
      rw [this]
theorem strict_parts (a b c p m : List UInt8) (hy pl : Bool) (ha : (46 : UInt8) ∉ a) (hb : (46 : UInt8) ∉ b) (h45 : (45 : UInt8) ∉ c) (h43 : (43 : UInt8) ∉ c) (hp : (43 : UInt8) ∉ p) (hl : (LL a b c p m hy pl).length ≤ 256) :
    (strictK (LL a b c p m hy pl) : Int) = sk (sk (sk (nk (nk (nk (KL p m hy pl) (segK a)) (segK b)) (segK c)) (smallB a)) (smallB b)) (smallB c) := by
  rw [strictK_rk]
  unfold strictR
  rw [if_neg (by unfold LL; simp), if_neg (by omega)]
  have e1 : cut 46 (LL a b c p m hy pl) = some (a, b ++ 46 :: L2 c p m hy pl) := cut_app _ ha
  have e2 : cut 46 (b ++ 46 :: L2 c p m hy pl) = some (b, L2 c p m hy pl) := cut_app _ hb
  rw [e1]
  dsimp only
  rw [e2]
  dsimp only
  exact metaR_rk a b c p m hy pl h45 h43 hp
end Go.Proofs.YtalpehfjjidfhaaDoor.MY
