/- Plain laws of the next second: union, meet, split. -/
import Derived.Test.YtlgdaegaahnkbaaSpecO
import Derived.Laws.Bits64b
namespace Go.Proofs.Ytlgdaegaahnkbaa.Tm
open Go Go.RowKit Cal MC
set_option linter.unusedVariables false
set_option linter.unusedSimpArgs false
theorem nx_union (b : SB) (k one other : Nat) (x : Int) (h : one.testBit 63 = other.testBit 63) : NX (b.put k (one ||| other)) x = earlier (NX (b.put k one) x) (NX (b.put k other) x) :=
  nx_eq (IsNext.union (fit_union b k one other h) (nx_is (b.put k one) x) (nx_is (b.put k other) x))
theorem earlier_f (r1 r2 : Option Int) : laws_cronEarlier.f (iv r1).1 0 (iv r1).2 (iv r2).1 0 (iv r2).2 = some ((iv (earlier r1 r2)).1, 0, (iv (earlier r1 r2)).2) := by
  cases r1 with
  | none => cases r2 <;> simp [laws_cronEarlier.f, iv, earlier]
  | some a =>
    cases r2 with
    | none => simp [laws_cronEarlier.f, iv, earlier]
    | some c =>
      by_cases h : c < a
      · simp [laws_cronEarlier.f, spec_CronBefore.f, iv, earlier, h]
      · by_cases h2 : c = a
        · simp [laws_cronEarlier.f, spec_CronBefore.f, iv, earlier, h2]
        · simp [laws_cronEarlier.f, spec_CronBefore.f, iv, earlier, h, h2]
theorem earlier_nx (b : SB) (k one other : Nat) (x : Int) (h : one.testBit 63 = other.testBit 63) :
    laws_cronEarlier.f (nS (b.put k one) x) 0 (nF (b.put k one) x) (nS (b.put k other) x) 0 (nF (b.put k other) x) = some (nS (b.put k (one ||| other)) x, 0, nF (b.put k (one ||| other)) x) := by
  unfold nS nF
  rw [nx_union b k one other x h]
  exact earlier_f _ _
theorem nF_none {b : SB} {x : Int} (h : nF b x = false) : NX b x = none := by
  unfold nF at h
  cases hr : NX b x with
  | none => rfl
  | some y => rw [hr] at h; cases h
theorem nF_some {b : SB} {x : Int} (h : nF b x = true) : NX b x = some (nS b x) := by
  unfold nF at h
  unfold nS
  cases hr : NX b x with
  | none => rw [hr] at h; cases h
  | some y => rfl
theorem nS_none {b : SB} {x : Int} (h : nF b x = false) : nS b x = 0 := by
  unfold nS
  rw [nF_none h]
  rfl
theorem nS_after {b : SB} {x : Int} (h : nF b x = true) : x < nS b x := by
  have := nx_is b x
  rw [nF_some h] at this
  have := this.1
  omega
/-- The star's bit, as the program has it. -/
def starV (n : Nat) : Int := if n.testBit 63 then 9223372036854775808 else 0
theorem star_bits (n : Nat) (h : n < 18446744073709551616) : Go.bits .and .u64 (n : Int) 9223372036854775808 = starV n := by
  rw [show (9223372036854775808 : Int) = ((9223372036854775808 : Nat) : Int) from rfl, bits_and_u64_nat n 9223372036854775808 h (by decide), Nat.and_comm, show (9223372036854775808 : Nat) = 2 ^ 63 from rfl, and_pow]
  unfold starV
  split <;> rfl
theorem starV_eq (a b : Nat) : starV a = starV b ↔ a.testBit 63 = b.testBit 63 := by
  unfold starV
  cases a.testBit 63 <;> cases b.testBit 63 <;> simp
theorem case_f (ev : Bool) (dl s i h d m w x nn : Int) : laws_cronCase.f ev dl s i h d m w x nn = some (!ev && (decide (-62135596800 ≤ x) && (decide (x ≤ 253402300799) && (decide (0 ≤ nn) && decide (nn < 1000000000))))) := by
  unfold laws_cronCase.f spec_CronGood.f
  cases ev
  · rw [if_neg (by simp)]
    by_cases h1 : -62135596800 ≤ x
    · rw [if_pos h1, decide_eq_true h1]
      by_cases h2 : x ≤ 253402300799
      · rw [if_pos h2, decide_eq_true h2]
        by_cases h3 : 0 ≤ nn
        · rw [if_pos h3, decide_eq_true h3]; rfl
        · rw [if_neg h3, decide_eq_false h3]; rfl
      · rw [if_neg h2, decide_eq_false h2]; rfl
    · rw [if_neg h1, decide_eq_false h1]; rfl
  · rfl
theorem kind_f (k : Int) : spec_CronIsKind.f k = some (decide (0 ≤ k) && decide (k < 6)) := by
  unfold spec_CronIsKind.f
  by_cases h : 0 ≤ k
  · rw [if_pos h, decide_eq_true h]; rfl
  · rw [if_neg h, decide_eq_false h]; rfl
theorem before_f (a c : Int) : spec_CronBefore.f a 0 c 0 = some (decide (a < c)) := by
  unfold spec_CronBefore.f
  split
  · simp_all
  · split <;> simp_all
theorem or_lt (a b : Nat) (ha : a < 18446744073709551616) (hb : b < 18446744073709551616) : a ||| b < 18446744073709551616 := Nat.or_lt_two_pow (n := 64) ha hb
theorem and_lt (a b : Nat) (ha : a < 18446744073709551616) : a &&& b < 18446744073709551616 := Nat.lt_of_le_of_lt Nat.and_le_left ha
/-- The meet of two sets in one field. -/
theorem nx_meet (b : SB) (k one other : Nat) (x : Int) (h : one.testBit 63 = other.testBit 63) :
    (nF (b.put k one) x = false ∨ nF (b.put k other) x = false → nF (b.put k (one &&& other)) x = false) ∧
    (nF (b.put k one) x = true → nF (b.put k other) x = true → nS (b.put k one) x = nS (b.put k other) x → nF (b.put k (one &&& other)) x = true ∧ nS (b.put k (one &&& other)) x = nS (b.put k one) x) ∧
    (nF (b.put k one) x = true → nF (b.put k other) x = true → nF (b.put k (one &&& other)) x = true → nS (b.put k one) x ≤ nS (b.put k (one &&& other)) x ∧ nS (b.put k other) x ≤ nS (b.put k (one &&& other)) x) := by
  obtain ⟨m1, m2, m3⟩ := IsNext.meet (fit_meet b k one other h) (nx_is (b.put k one) x) (nx_is (b.put k other) x) (nx_is (b.put k (one &&& other)) x)
  refine ⟨fun e => ?_, fun e1 e2 e3 => ?_, fun e1 e2 e3 => m3 _ _ _ (nF_some e1) (nF_some e2) (nF_some e3)⟩
  · unfold nF
    rw [m1 (e.imp nF_none nF_none)]
    rfl
  · have := m2 _ (nF_some e1) (by rw [nF_some e2, e3])
    unfold nF
    rw [this]
    refine ⟨rfl, ?_⟩
    show (iv (NX (b.put k (one &&& other)) x)).1 = _
    rw [this]
    rfl
end Go.Proofs.Ytlgdaegaahnkbaa.Tm
