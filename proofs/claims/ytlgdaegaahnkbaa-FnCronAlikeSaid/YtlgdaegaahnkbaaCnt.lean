/- How many seconds fit: plain laws. -/
import Derived.Test.YtlgdaegaahnkbaaSpecP
namespace Go.Proofs.Ytlgdaegaahnkbaa.Tm
open Go Go.RowKit Cal MC
set_option linter.unusedVariables false
set_option linter.unusedSimpArgs false
/-- How many of a, a + 1 .. a + n - 1 have p. -/
def cR (p : Int → Bool) (a : Int) : Nat → Int
  | 0 => 0
  | n + 1 => cR p a n + (if p (a + n) then 1 else 0)
theorem cR_succ (p : Int → Bool) (a : Int) (n : Nat) : cR p a (n + 1) = cR p a n + (if p (a + n) then 1 else 0) := rfl
theorem cR_bd (p : Int → Bool) (a : Int) (n : Nat) : 0 ≤ cR p a n ∧ cR p a n ≤ n := by
  induction n with
  | zero => exact ⟨Int.le_refl _, Int.le_refl _⟩
  | succ n ih =>
    rw [cR_succ]
    split <;> omega
theorem cR_add (p : Int → Bool) (a : Int) (m n : Nat) : cR p a (m + n) = cR p a m + cR p (a + m) n := by
  induction n with
  | zero => simp [cR]
  | succ n ih =>
    rw [show m + (n + 1) = (m + n) + 1 from rfl, cR_succ, cR_succ, ih, show a + ((m + n : Nat) : Int) = a + (m : Int) + (n : Int) by omega]
    omega
theorem cR_congr {p q : Int → Bool} {a b : Int} {n : Nat} (h : ∀ k : Nat, k < n → p (a + k) = q (b + k)) : cR p a n = cR q b n := by
  induction n with
  | zero => rfl
  | succ n ih =>
    rw [cR_succ, cR_succ, ih (fun k hk => h k (by omega)), h n (by omega)]
theorem cR_none {p : Int → Bool} {a : Int} {n : Nat} (h : ∀ k : Nat, k < n → p (a + k) = false) : cR p a n = 0 := by
  induction n with
  | zero => rfl
  | succ n ih =>
    rw [cR_succ, ih (fun k hk => h k (by omega)), h n (by omega)]
    rfl
/-- Blocks of c each, alike where g, else with none. -/
theorem cR_blocks (p g : Int → Bool) (a : Int) (c : Nat) (w : Int) (n : Nat) (h : ∀ k : Nat, k < n → cR p (a + c * k) c = if g k then w else 0) : cR p a (c * n) = cR g 0 n * w := by
  induction n with
  | zero => simp [cR]
  | succ n ih =>
    rw [show c * (n + 1) = c * n + c by rw [Nat.mul_add, Nat.mul_one], cR_add, ih (fun k hk => h k (by omega)), show a + ((c * n : Nat) : Int) = a + (c : Int) * (n : Int) by rw [Int.natCast_mul], h n (by omega)]
    show _ = (cR g 0 n + (if g (0 + (n : Int)) then 1 else 0)) * w
    rw [Int.zero_add, Int.add_mul]
    split <;> simp
/-- The time of a day. -/
def tB (b : SB) (r : Int) : Bool := bitOf b.h (r / 3600) && (bitOf b.i (r % 3600 / 60) && bitOf b.s (r % 60))
def hB (b : SB) (v : Int) : Bool := bitOf b.h v
def iB (b : SB) (v : Int) : Bool := bitOf b.i v
def sB (b : SB) (v : Int) : Bool := bitOf b.s v
/-- The seconds of a minute's beginning. -/
theorem sec_part (b : SB) (h m : Int) (m0 : 0 ≤ m) (m1 : m < 60) (s : Nat) (s1 : s ≤ 60) : cR (tB b) (3600 * h + 60 * m) s = if hB b h && iB b m then cR (sB b) 0 s else 0 := by
  by_cases c : (hB b h && iB b m) = true
  · rw [if_pos c]
    refine cR_congr fun k hk => ?_
    unfold tB sB
    unfold hB iB at c
    rw [show (3600 * h + 60 * m + (k : Int)) / 3600 = h by omega, show (3600 * h + 60 * m + (k : Int)) % 3600 / 60 = m by omega, show (3600 * h + 60 * m + (k : Int)) % 60 = (k : Int) by omega, Int.zero_add]
    rw [Bool.and_eq_true] at c
    rw [c.1, c.2]
    rfl
  · rw [if_neg c]
    refine cR_none fun k hk => ?_
    unfold tB
    unfold hB iB at c
    rw [show (3600 * h + 60 * m + (k : Int)) / 3600 = h by omega, show (3600 * h + 60 * m + (k : Int)) % 3600 / 60 = m by omega]
    cases h1 : bitOf b.h h
    · rfl
    · cases h2 : bitOf b.i m
      · rfl
      · rw [h1, h2] at c; exact absurd rfl c
theorem min_part (b : SB) (h : Int) (m : Nat) (m1 : m ≤ 60) : cR (tB b) (3600 * h) (60 * m) = if hB b h then cR (iB b) 0 m * cR (sB b) 0 60 else 0 := by
  by_cases c : hB b h = true
  · rw [if_pos c]
    refine cR_blocks (tB b) (iB b) (3600 * h) 60 (cR (sB b) 0 60) m fun k hk => ?_
    have := sec_part b h (k : Int) (by omega) (by omega) 60 (Nat.le_refl _)
    rw [c, Bool.true_and] at this
    exact this
  · rw [if_neg c]
    have := cR_blocks (tB b) (fun _ => false) (3600 * h) 60 0 m fun k hk => by
      have := sec_part b h (k : Int) (by omega) (by omega) 60 (Nat.le_refl _)
      rw [if_neg (by rw [Bool.and_eq_true]; exact fun e => c e.1)] at this
      simpa using this
    rw [this, Int.mul_zero]
theorem hour_part (b : SB) (h : Nat) : cR (tB b) 0 (3600 * h) = cR (hB b) 0 h * (cR (iB b) 0 60 * cR (sB b) 0 60) := by
  refine cR_blocks (tB b) (hB b) 0 3600 _ h fun k hk => ?_
  have := min_part b (k : Int) 60 (Nat.le_refl _)
  rw [Int.zero_add]
  exact this
/-- What cronPart computes. -/
def pT (b : SB) (s : Int) : Int :=
  cR (hB b) 0 (min (s / 3600) 24).toNat * cR (iB b) 0 60 * cR (sB b) 0 60 +
    (if s / 3600 < 24 ∧ hB b (s / 3600) = true then cR (iB b) 0 (s / 60 % 60).toNat * cR (sB b) 0 60 + (if iB b (s / 60 % 60) = true then cR (sB b) 0 (s % 60).toNat else 0) else 0)
theorem pT_eq (b : SB) (s : Int) (s0 : 0 ≤ s) (s1 : s ≤ 86400) : pT b s = cR (tB b) 0 s.toNat := by
  unfold pT
  by_cases c : s / 3600 < 24
  · have e : s.toNat = 3600 * (s / 3600).toNat + (60 * (s / 60 % 60).toNat + (s % 60).toNat) := by omega
    rw [e, cR_add, cR_add, hour_part, Int.zero_add, show min (s / 3600) 24 = s / 3600 by omega, Int.mul_assoc]
    have e2 : ((3600 * (s / 3600).toNat : Nat) : Int) = 3600 * (s / 3600) := by omega
    rw [e2, min_part b (s / 3600) (s / 60 % 60).toNat (by omega), show 3600 * (s / 3600) + ((60 * (s / 60 % 60).toNat : Nat) : Int) = 3600 * (s / 3600) + 60 * (s / 60 % 60) by omega, sec_part b (s / 3600) (s / 60 % 60) (by omega) (by omega) (s % 60).toNat (by omega)]
    congr 1
    cases h1 : hB b (s / 3600)
    · simp
    · rw [if_pos ⟨c, rfl⟩]
      simp
  · have e : s = 86400 := by omega
    subst e
    rw [if_neg (fun h => c h.1), show (86400 : Int).toNat = 3600 * 24 from rfl, hour_part, show (min ((86400 : Int) / 3600) 24).toNat = 24 from rfl, Int.mul_assoc, Int.add_zero]
/-- Whether a second fits. -/
def fB (b : SB) (y : Int) : Bool := fitB b (y / 86400) (y % 86400)
def dB (b : SB) (n : Int) : Bool := bitOf b.m (mo n) && dayOk b.d b.w n
theorem fB_day (b : SB) (n r : Int) (r0 : 0 ≤ r) (r1 : r < 86400) : fB b (86400 * n + r) = (dB b n && tB b r) := by
  unfold fB fitB dB tB
  rw [show (86400 * n + r) / 86400 = n by omega, show (86400 * n + r) % 86400 = r by omega, Bool.and_assoc]
/-- A day's part, from lo on and ahead of hi. -/
theorem day_part (b : SB) (n lo hi : Int) (h0 : 0 ≤ lo) (h1 : lo ≤ hi) (h2 : hi ≤ 86400) : cR (fB b) (86400 * n + lo) (hi - lo).toNat = if dB b n = true then pT b hi - pT b lo else 0 := by
  rw [pT_eq b hi (by omega) h2, pT_eq b lo h0 (by omega)]
  have e := cR_add (tB b) 0 lo.toNat (hi - lo).toNat
  rw [show lo.toNat + (hi - lo).toNat = hi.toNat by omega, Int.zero_add, Int.toNat_of_nonneg h0] at e
  by_cases c : dB b n = true
  · rw [if_pos c, e]
    have : cR (fB b) (86400 * n + lo) (hi - lo).toNat = cR (tB b) lo (hi - lo).toNat := cR_congr fun k hk => by
      rw [Int.add_assoc, fB_day b n _ (by omega) (by omega), c, Bool.true_and]
    omega
  · rw [if_neg c]
    exact cR_none fun k hk => by
      rw [Int.add_assoc, fB_day b n _ (by omega) (by omega), (by simpa using c : dB b n = false), Bool.false_and]
theorem pT_bd (b : SB) (s : Int) (s0 : 0 ≤ s) (s1 : s ≤ 86400) : 0 ≤ pT b s ∧ pT b s ≤ 86400 := by
  rw [pT_eq b s s0 s1]
  have := cR_bd (tB b) 0 s.toNat
  omega
end Go.Proofs.Ytlgdaegaahnkbaa.Tm
