/- Plain laws of the next second: a field split in two. -/
import Derived.Test.YtlgdaegaahnkbaaNxP
namespace Go.Proofs.Ytlgdaegaahnkbaa.Tm
open Go Go.RowKit Cal MC
set_option linter.unusedVariables false
set_option linter.unusedSimpArgs false
theorem fit_union' (b : SB) (k u v : Nat) (h3 : k ≠ 3) (h5 : k < 5) (t : Int) : fit (b.put k (u ||| v)).sch t ↔ fit (b.put k u).sch t ∨ fit (b.put k v).sch t := by
  have hk : k = 0 ∨ k = 1 ∨ k = 2 ∨ k = 4 := by omega
  rcases hk with rfl | rfl | rfl | rfl <;> simp only [SB.put, fit, fitDay, fitT, SB.sch, schOf, bit_or, Bool.or_eq_true] <;> grind
theorem put_fld (b : SB) (k : Nat) (h : k < 6) : b.put k (fldN b k) = b := by
  have hk : k = 0 ∨ k = 1 ∨ k = 2 ∨ k = 3 ∨ k = 4 ∨ k = 5 := by omega
  rcases hk with rfl | rfl | rfl | rfl | rfl | rfl <;> rfl
/-- The lower part of a field's bits, and the rest. -/
def loB (b : SB) (k n : Nat) : Nat := fldN b k &&& (2 ^ n - 1)
def hiB (b : SB) (k n : Nat) : Nat := fldN b k ^^^ (fldN b k &&& (2 ^ n - 1))
theorem lo_hi (b : SB) (k n : Nat) : loB b k n ||| hiB b k n = fldN b k := split_or _ _
theorem split_union (b : SB) (k n : Nat) (h3 : k ≠ 3) (h5 : k < 5) (x : Int) : NX b x = earlier (NX (b.put k (loB b k n)) x) (NX (b.put k (hiB b k n)) x) := by
  have h := IsNext.union (fit_union' b k (loB b k n) (hiB b k n) h3 h5) (nx_is (b.put k (loB b k n)) x) (nx_is (b.put k (hiB b k n)) x)
  rw [lo_hi, put_fld b k (by omega)] at h
  exact nx_eq h
theorem split_earlier (b : SB) (k n : Nat) (h3 : k ≠ 3) (h5 : k < 5) (x : Int) :
    laws_cronEarlier.f (nS (b.put k (loB b k n)) x) 0 (nF (b.put k (loB b k n)) x) (nS (b.put k (hiB b k n)) x) 0 (nF (b.put k (hiB b k n)) x) = some (nS b x, 0, nF b x) := by
  have h := earlier_f (NX (b.put k (loB b k n)) x) (NX (b.put k (hiB b k n)) x)
  rw [← split_union b k n h3 h5 x] at h
  exact h
theorem split_ne (b : SB) (k n : Nat) (h3 : k ≠ 3) (h5 : k < 5) (x : Int) (h1 : nF (b.put k (loB b k n)) x = true) (h2 : nF (b.put k (hiB b k n)) x = true) : nS (b.put k (loB b k n)) x ≠ nS (b.put k (hiB b k n)) x := by
  have i1 := nx_is (b.put k (loB b k n)) x
  have i2 := nx_is (b.put k (hiB b k n)) x
  rw [nF_some h1] at i1
  rw [nF_some h2] at i2
  exact IsNext.apart (fit_apart b k (loB b k n) (hiB b k n) h3 h5 (fun v _ => split_apart _ _ v)) i1 i2
theorem split_any (b : SB) (k n : Nat) (h3 : k ≠ 3) (h5 : k < 5) (x : Int) : nF b x = (nF (b.put k (loB b k n)) x || nF (b.put k (hiB b k n)) x) := by
  show (iv (NX b x)).2 = ((iv _).2 || (iv _).2)
  rw [split_union b k n h3 h5 x]
  cases NX (b.put k (loB b k n)) x with
  | none => cases NX (b.put k (hiB b k n)) x <;> rfl
  | some y =>
    cases NX (b.put k (hiB b k n)) x with
    | none => rfl
    | some z =>
      show (iv (if z < y then some z else some y)).2 = true
      split <;> rfl
theorem lo_lt {b : SB} (h : Wf b) (k n : Nat) : loB b k n < 18446744073709551616 := and_lt _ _ (h.fld k)
theorem hi_lt {b : SB} (h : Wf b) (k n : Nat) : hiB b k n < 18446744073709551616 := Nat.xor_lt_two_pow (n := 64) (h.fld k) (and_lt _ _ (h.fld k))
theorem lo_bits {b : SB} (h : Wf b) (k n : Nat) (hn : n ≤ 60) : Go.bits .and .u64 (fldN b k : Int) ((2 ^ n - 1 : Nat) : Int) = (loB b k n : Int) := by
  have hp : 2 ^ n ≤ 2 ^ 60 := Nat.pow_le_pow_right (by decide) hn
  exact bits_and_u64_nat _ _ (h.fld k) (by omega)
theorem hi_bits {b : SB} (h : Wf b) (k n : Nat) : Go.bits .andNot .u64 (fldN b k : Int) (loB b k n : Int) = (hiB b k n : Int) := by
  rw [u64_andNot_nat _ _ (h.fld k) (lo_lt h k n)]
  congr 1
  unfold hiB
  rw [show fldN b k &&& (2 ^ n - 1) = loB b k n from rfl]
  have hl : ∀ i, (loB b k n).testBit i = true → (fldN b k).testBit i = true := fun i hi => by
    unfold loB at hi
    rw [Nat.testBit_and, Bool.and_eq_true] at hi
    exact hi.1
  have hf : fldN b k < 2 ^ 64 := h.fld k
  have hlo := lo_lt h k n
  apply Nat.eq_of_testBit_eq
  intro i
  rw [Nat.testBit_and, Nat.testBit_xor, show 18446744073709551615 - loB b k n = 2 ^ 64 - (loB b k n + 1) by omega, Nat.testBit_two_pow_sub_succ (show loB b k n < 2 ^ 64 from hlo)]
  rcases Nat.lt_or_ge i 64 with c | c
  · have hi := hl i
    rw [decide_eq_true c]
    generalize (fldN b k).testBit i = p at hi ⊢
    generalize (loB b k n).testBit i = q at hi ⊢
    cases p
    · cases q
      · rfl
      · exact absurd (hi rfl) (by simp)
    · cases q <;> rfl
  · have e1 : (fldN b k).testBit i = false := Nat.testBit_lt_two_pow (Nat.lt_of_lt_of_le hf (Nat.pow_le_pow_right (by decide) c))
    have e2 : (loB b k n).testBit i = false := by
      cases hq : (loB b k n).testBit i with
      | false => rfl
      | true => rw [hl i hq] at e1; cases e1
    rw [e1, e2]
    simp
end Go.Proofs.Ytlgdaegaahnkbaa.Tm
