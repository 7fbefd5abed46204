/- The plain calendar, the search for the least second that fits, and sets of values: plain laws, no program in sight. -/
namespace Go.Proofs.Ytlgdaegaahnkbaa.Cal
/- The plain calendar: days and their dates. -/
/-- leap years -/
def lp (y : Int) : Int := if y % 4 = 0 ∧ (y % 100 ≠ 0 ∨ y % 400 = 0) then 1 else 0
def md (y m : Int) : Int := if m = 2 then 28 + lp y else if m = 4 ∨ m = 6 ∨ m = 9 ∨ m = 11 then 30 else 31
/-- days between the first of 1970 and the first day of a year -/
def ys (y : Int) : Int := 365 * (y - 1) + (y - 1) / 4 - (y - 1) / 100 + (y - 1) / 400 - 719162
/-- days ahead of a month -/
def cu (y m : Int) : Int := if m ≤ 1 then 0 else if m = 2 then 31 else 59 + lp y + (153 * m - 457) / 5
def num (y m d : Int) : Int := ys y + cu y m + d - 1
def Valid (y m d : Int) : Prop := 1 ≤ m ∧ m ≤ 12 ∧ 1 ≤ d ∧ d ≤ md y m
theorem lp01 (y : Int) : 0 ≤ lp y ∧ lp y ≤ 1 := by unfold lp; split <;> omega
theorem ys_succ (y : Int) : ys (y + 1) = ys y + 365 + lp y := by
  unfold ys lp
  have e : y + 1 - 1 = y := by omega
  rw [e]
  split <;> omega
theorem ys_mono' (y : Int) (n : Nat) : ys y + 365 * n ≤ ys (y + n) := by
  induction n with
  | zero => simp
  | succ k ih =>
    have e : y + (k + 1 : Nat) = (y + k) + 1 := by omega
    rw [e, ys_succ]
    have := lp01 (y + k)
    omega
theorem ys_lt {a b : Int} (h : a < b) : ys (a + 1) ≤ ys b := by
  obtain ⟨n, hn⟩ : ∃ n : Nat, b = a + 1 + n := ⟨(b - a - 1).toNat, by omega⟩
  have := ys_mono' (a + 1) n
  rw [← hn] at this
  omega
theorem cu_succ (y m : Int) (h1 : 1 ≤ m) (h2 : m ≤ 12) : cu y (m + 1) = cu y m + md y m := by
  have hm : m = 1 ∨ m = 2 ∨ m = 3 ∨ m = 4 ∨ m = 5 ∨ m = 6 ∨ m = 7 ∨ m = 8 ∨ m = 9 ∨ m = 10 ∨ m = 11 ∨ m = 12 := by omega
  rcases hm with rfl | rfl | rfl | rfl | rfl | rfl | rfl | rfl | rfl | rfl | rfl | rfl <;> simp [cu, md] <;> omega
theorem cu13 (y : Int) : cu y 13 = 365 + lp y := by simp [cu]; omega
theorem md_bd (y m : Int) : 28 ≤ md y m ∧ md y m ≤ 31 := by
  have := lp01 y
  unfold md
  split
  · omega
  · split <;> omega
theorem cu_lt (y : Int) {a b : Int} (h1 : 1 ≤ a) (h : a < b) (h2 : b ≤ 13) : cu y (a + 1) ≤ cu y b := by
  obtain ⟨n, hn⟩ : ∃ n : Nat, b = a + 1 + n := ⟨(b - a - 1).toNat, by omega⟩
  subst hn
  clear h
  induction n with
  | zero => simp
  | succ k ih =>
    have := ih (by omega)
    have e : a + 1 + (k + 1 : Nat) = (a + 1 + k) + 1 := by omega
    rw [e]
    have h1' := cu_succ y (a + 1 + k) (by omega) (by omega)
    have := md_bd y (a + 1 + k)
    omega
/-- a date's day is in its month -/
theorem num_month {y m d : Int} (h : Valid y m d) : ys y + cu y m ≤ num y m d ∧ num y m d < ys y + cu y (m + 1) := by
  obtain ⟨h1, h2, h3, h4⟩ := h
  rw [cu_succ y m h1 h2]
  unfold num
  omega
theorem num_year {y m d : Int} (h : Valid y m d) : ys y ≤ num y m d ∧ num y m d < ys (y + 1) := by
  have hn := num_month h
  obtain ⟨h1, h2, h3, h4⟩ := h
  have a : 0 ≤ cu y m := by
    have := lp01 y
    unfold cu
    split
    · omega
    · split
      · omega
      · omega
  have b : cu y (m + 1) ≤ cu y 13 := by
    rcases Int.lt_or_eq_of_le h2 with h | h
    · have := cu_lt y (a := m) (b := 13) h1 (by omega) (by omega)
      exact this
    · subst h; exact Int.le_refl _
  rw [cu13] at b
  rw [ys_succ]
  omega
theorem num_inj {y m d y' m' d' : Int} (h : Valid y m d) (h' : Valid y' m' d') (e : num y m d = num y' m' d') : y = y' ∧ m = m' ∧ d = d' := by
  have a := num_year h
  have b := num_year h'
  have hy : y = y' := by
    rcases Int.lt_trichotomy y y' with c | c | c
    · have := ys_lt c; omega
    · exact c
    · have := ys_lt c; omega
  subst hy
  have a := num_month h
  have b := num_month h'
  have hm : m = m' := by
    rcases Int.lt_trichotomy m m' with c | c | c
    · have := cu_lt y h.1 c (by have := h'.2.1; omega); omega
    · exact c
    · have := cu_lt y h'.1 c (by have := h.2.1; omega); omega
  subst hm
  refine ⟨rfl, rfl, ?_⟩
  unfold num at e
  omega
/-- The date of a day, as Go's package time splits it (days from March 1 of a year 0 of 400). -/
def cen (a : Int) : Int := (4 * a + 3) / 146097
def cdy (a : Int) : Int := (4 * a + 3) % 146097 / 4
def cyr (a : Int) : Int := (4 * cdy a + 3) / 1461
def ayd (a : Int) : Int := (4 * cdy a + 3) % 1461 / 4
def amo (a : Int) : Int := (5 * ayd a + 461) / 153
def mdy (a : Int) : Int := (5 * ayd a + 461) % 153 / 5
def jf (a : Int) : Int := if 306 ≤ ayd a then 1 else 0
/-- Year, month and day of day n from 1970 on: a = n + 719468, the days from March 1 of year 0 on. -/
def yr (n : Int) : Int := 100 * cen (n + 719468) + cyr (n + 719468) + jf (n + 719468)
def mo (n : Int) : Int := amo (n + 719468) - 12 * jf (n + 719468)
def dy (n : Int) : Int := mdy (n + 719468) + 1
theorem split_days (a : Int) : a = 36524 * cen a + cen a / 4 + cdy a ∧ 0 ≤ cdy a ∧ cdy a ≤ 36524 ∧ (cen a % 4 ≠ 3 → cdy a ≤ 36523) := by
  unfold cdy cen
  have h := Int.mul_ediv_add_emod (4 * a + 3) 146097
  have h1 := Int.emod_nonneg (4 * a + 3) (show (146097 : Int) ≠ 0 by decide)
  have h2 := Int.emod_lt_of_pos (4 * a + 3) (show (0 : Int) < 146097 by decide)
  generalize (4 * a + 3) / 146097 = c at *
  generalize (4 * a + 3) % 146097 = r at *
  have hc : c % 4 = 0 ∨ c % 4 = 1 ∨ c % 4 = 2 ∨ c % 4 = 3 := by omega
  rcases hc with hc | hc | hc | hc <;> omega
theorem split_year (a : Int) : cdy a = 365 * cyr a + cyr a / 4 + ayd a ∧ 0 ≤ cyr a ∧ cyr a ≤ 99 ∧ 0 ≤ ayd a ∧ ayd a ≤ 365 ∧ (cyr a % 4 ≠ 3 → ayd a ≤ 364) ∧ (cyr a = 99 → cdy a ≤ 36523 → ayd a ≤ 364) := by
  have hd := split_days a
  unfold ayd cyr
  generalize cdy a = c at *
  have h := Int.mul_ediv_add_emod (4 * c + 3) 1461
  have h1 := Int.emod_nonneg (4 * c + 3) (show (1461 : Int) ≠ 0 by decide)
  have h2 := Int.emod_lt_of_pos (4 * c + 3) (show (0 : Int) < 1461 by decide)
  generalize (4 * c + 3) / 1461 = y at *
  generalize (4 * c + 3) % 1461 = r at *
  have hy : y % 4 = 0 ∨ y % 4 = 1 ∨ y % 4 = 2 ∨ y % 4 = 3 := by omega
  rcases hy with hy | hy | hy | hy <;> omega
theorem split_month (a : Int) : 0 ≤ mdy a ∧ mdy a ≤ 30 ∧ 3 ≤ amo a ∧ amo a ≤ 14 ∧ ayd a = (153 * amo a - 457) / 5 + mdy a ∧ ((306 ≤ ayd a) ↔ 13 ≤ amo a) ∧ (amo a = 4 ∨ amo a = 6 ∨ amo a = 9 ∨ amo a = 11 → mdy a ≤ 29) := by
  have := split_year a
  unfold mdy amo
  generalize ayd a = c at *
  have h := Int.mul_ediv_add_emod (5 * c + 461) 153
  have h1 := Int.emod_nonneg (5 * c + 461) (show (153 : Int) ≠ 0 by decide)
  have h2 := Int.emod_lt_of_pos (5 * c + 461) (show (0 : Int) < 153 by decide)
  generalize (5 * c + 461) / 153 = m at *
  generalize (5 * c + 461) % 153 = r at *
  have hm : m = 3 ∨ m = 4 ∨ m = 5 ∨ m = 6 ∨ m = 7 ∨ m = 8 ∨ m = 9 ∨ m = 10 ∨ m = 11 ∨ m = 12 ∨ m = 13 ∨ m = 14 := by omega
  rcases hm with rfl | rfl | rfl | rfl | rfl | rfl | rfl | rfl | rfl | rfl | rfl | rfl <;> omega
/-- the first of March -/
def mar (y : Int) : Int := 365 * y + y / 4 - y / 100 + y / 400
theorem ys_mar (y : Int) : ys y + 59 + lp y = mar y - 719468 := by
  unfold ys lp mar
  split <;> omega
theorem ys_next (y : Int) : ys (y + 1) = mar y - 719162 := by
  unfold ys mar
  rw [show y + 1 - 1 = y by omega]
theorem mar_cen (c y : Int) (h0 : 0 ≤ y) (h1 : y ≤ 99) : mar (100 * c + y) = 36524 * c + c / 4 + 365 * y + y / 4 := by
  unfold mar
  have e1 : (100 * c + y) / 4 = 25 * c + y / 4 := by omega
  have e2 : (100 * c + y) / 100 = c := by omega
  have e3 : (100 * c + y) / 400 = c / 4 := by omega
  rw [e1, e2, e3]
  omega
theorem lp_cen (c y : Int) (h0 : 0 ≤ y) (h1 : y ≤ 99) : lp (100 * c + y + 1) = if y % 4 = 3 ∧ (y ≠ 99 ∨ c % 4 = 3) then 1 else 0 := by
  unfold lp
  have e1 : (100 * c + y + 1) % 4 = (y + 1) % 4 := by omega
  have e2 : (100 * c + y + 1) % 100 = 0 ↔ y = 99 := by omega
  have e3 : (100 * c + y + 1) % 400 = 0 ↔ y = 99 ∧ c % 4 = 3 := by omega
  have e : ((100 * c + y + 1) % 4 = 0 ∧ ((100 * c + y + 1) % 100 ≠ 0 ∨ (100 * c + y + 1) % 400 = 0)) ↔ (y % 4 = 3 ∧ (y ≠ 99 ∨ c % 4 = 3)) := by
    rw [e1, Ne, e2, e3]
    omega
  simp only [e]
theorem date_num (n : Int) : Valid (yr n) (mo n) (dy n) ∧ num (yr n) (mo n) (dy n) = n := by
  have h1 := split_days (n + 719468)
  have h2 := split_year (n + 719468)
  have h3 := split_month (n + 719468)
  unfold yr mo dy jf
  generalize cen (n + 719468) = c at *
  generalize cdy (n + 719468) = cd at *
  generalize cyr (n + 719468) = y at *
  generalize ayd (n + 719468) = ay at *
  generalize amo (n + 719468) = am at *
  generalize mdy (n + 719468) = d at *
  obtain ⟨a1, a2, a3, a4⟩ := h1
  obtain ⟨b1, b2, b3, b4, b5, b6, b7⟩ := h2
  obtain ⟨c1, c2, c3, c4, c5, c6, c7⟩ := h3
  have hM := mar_cen c y b2 b3
  have hL := lp_cen c y b2 b3
  by_cases hj : 306 ≤ ay
  · rw [if_pos hj]
    have h13 := c6.1 hj
    have hY := ys_next (100 * c + y)
    have hl : ay = 365 → lp (100 * c + y + 1) = 1 := by
      intro e
      rw [hL, if_pos]
      refine ⟨?_, ?_⟩
      · rcases Decidable.em (y % 4 = 3) with h | h
        · exact h
        · have := b6 h; omega
      · rcases Decidable.em (y = 99) with h | h
        · refine Or.inr ?_
          rcases Decidable.em (c % 4 = 3) with h' | h'
          · exact h'
          · have := b7 h (a4 h'); omega
        · exact Or.inl h
    have hb := lp01 (100 * c + y + 1)
    have hm : am = 13 ∨ am = 14 := by omega
    rcases hm with rfl | rfl
    · refine ⟨⟨by omega, by omega, by omega, ?_⟩, ?_⟩
      · simp [md]; omega
      · unfold num
        simp [cu]
        omega
    · unfold Valid num
      rw [show (14 : Int) - 12 * 1 = 2 by decide]
      refine ⟨⟨by omega, by omega, by omega, ?_⟩, ?_⟩
      · unfold md
        rw [if_pos rfl]
        omega
      · simp [cu]
        omega
  · rw [if_neg hj]
    have h13 : ¬ 13 ≤ am := fun h => hj (c6.2 h)
    have hY := ys_mar (100 * c + y)
    have hb := lp01 (100 * c + y)
    rw [show (100 * c + y + 0) = 100 * c + y by omega]
    have hm : am = 3 ∨ am = 4 ∨ am = 5 ∨ am = 6 ∨ am = 7 ∨ am = 8 ∨ am = 9 ∨ am = 10 ∨ am = 11 ∨ am = 12 := by omega
    generalize 100 * c + y = Y at *
    rcases hm with rfl | rfl | rfl | rfl | rfl | rfl | rfl | rfl | rfl | rfl
    all_goals
      refine ⟨⟨by omega, by omega, by omega, ?_⟩, ?_⟩
      · simp [md]
        omega
      · unfold num
        simp [cu]
        omega
/- The least second of a schedule: plain laws. -/
/-- What a schedule allows: months, days (by their number), hours, minutes, seconds. -/
structure Sch where
  M : Int → Bool
  D : Int → Bool
  H : Int → Bool
  I : Int → Bool
  S : Int → Bool
def fitDay (s : Sch) (n : Int) : Prop := s.M (mo n) = true ∧ s.D n = true
def fitT (s : Sch) (r : Int) : Prop := s.H (r / 3600) = true ∧ s.I (r % 3600 / 60) = true ∧ s.S (r % 60) = true
def fit (s : Sch) (x : Int) : Prop := fitDay s (x / 86400) ∧ fitT s (x % 86400)
def NoFit (s : Sch) (a b : Int) : Prop := ∀ y, a ≤ y → y < b → ¬ fit s y
theorem NoFit.none {s : Sch} {a b : Int} (h : b ≤ a) : NoFit s a b := fun y h1 h2 => absurd h1 (by omega)
theorem NoFit.join {s : Sch} {a b c : Int} (h : NoFit s a b) (h' : NoFit s b c) : NoFit s a c := fun y h1 h2 => by
  rcases Int.lt_or_le y b with c | c
  · exact h y h1 c
  · exact h' y c h2
/-- the least second from a on that fits and whose year is at most last, if there is one -/
def IsNext (s : Sch) (a last : Int) : Option Int → Prop
  | some x => a ≤ x ∧ fit s x ∧ yr (x / 86400) ≤ last ∧ NoFit s a x
  | none => ∀ y, a ≤ y → yr (y / 86400) ≤ last → ¬ fit s y
theorem IsNext.unique {s : Sch} {a last : Int} {r r' : Option Int} (h : IsNext s a last r) (h' : IsNext s a last r') : r = r' := by
  cases r with
  | none => cases r' with
    | none => rfl
    | some x => exact absurd h'.2.1 (h x h'.1 h'.2.2.1)
  | some x => cases r' with
    | none => exact absurd h.2.1 (h' x h.1 h.2.2.1)
    | some y =>
      congr 1
      rcases Int.lt_trichotomy x y with c | c | c
      · exact absurd h.2.1 (h'.2.2.2 x h.1 c)
      · exact c
      · exact absurd h'.2.1 (h.2.2.2 y h'.1 c)
/-- the date of a number -/
theorem date_of {y m d : Int} (h : Valid y m d) : yr (num y m d) = y ∧ mo (num y m d) = m ∧ dy (num y m d) = d := by
  have := date_num (num y m d)
  exact num_inj this.1 h this.2
theorem mo_bd (n : Int) : 1 ≤ mo n ∧ mo n ≤ 12 := ⟨(date_num n).1.1, (date_num n).1.2.1⟩
theorem dy_bd (n : Int) : 1 ≤ dy n ∧ dy n ≤ md (yr n) (mo n) := ⟨(date_num n).1.2.2.1, (date_num n).1.2.2.2⟩
/-- the first day of the month of a day, and of the month behind it -/
def ms (n : Int) : Int := ys (yr n) + cu (yr n) (mo n)
def me (n : Int) : Int := ys (yr n) + cu (yr n) (mo n + 1)
theorem me_ms (n : Int) : me n = ms n + md (yr n) (mo n) := by
  have := mo_bd n
  unfold me ms
  rw [cu_succ _ _ this.1 this.2]
  omega
theorem num_eq (n : Int) : n = ms n + dy n - 1 := by
  have := (date_num n).2
  unfold num at this
  unfold ms
  omega
theorem in_month (n : Int) : ms n ≤ n ∧ n < me n := by
  have := num_eq n
  have := dy_bd n
  have := me_ms n
  omega
theorem same_month {n k : Int} (h : ms n ≤ k) (h' : k < me n) : yr k = yr n ∧ mo k = mo n ∧ dy k = k - ms n + 1 := by
  have hm := mo_bd n
  have e := me_ms n
  have hv : Valid (yr n) (mo n) (k - ms n + 1) := ⟨hm.1, hm.2, by omega, by omega⟩
  have := date_of hv
  have e2 : num (yr n) (mo n) (k - ms n + 1) = k := by unfold num ms; omega
  rwa [e2] at this
theorem same_ms {n k : Int} (h : ms n ≤ k) (h' : k < me n) : ms k = ms n ∧ me k = me n := by
  obtain ⟨a, b, c⟩ := same_month h h'
  unfold ms me
  rw [a, b]
  exact ⟨rfl, rfl⟩
/-- the first day of the next month -/
theorem next_month (n : Int) : dy (me n) = 1 ∧ (mo n < 12 → yr (me n) = yr n ∧ mo (me n) = mo n + 1) ∧ (mo n = 12 → yr (me n) = yr n + 1 ∧ mo (me n) = 1) := by
  have hm := mo_bd n
  rcases Int.lt_or_eq_of_le hm.2 with h | h
  · have hb := md_bd (yr n) (mo n + 1)
    have hv : Valid (yr n) (mo n + 1) 1 := ⟨by omega, by omega, by omega, by omega⟩
    have e : num (yr n) (mo n + 1) 1 = me n := by unfold num me; omega
    have := date_of hv
    rw [e] at this
    exact ⟨this.2.2, fun _ => ⟨this.1, this.2.1⟩, fun h' => absurd h' (by omega)⟩
  · have hv : Valid (yr n + 1) 1 1 := ⟨by omega, by omega, by omega, by have := md_bd (yr n + 1) 1; omega⟩
    have e : num (yr n + 1) 1 1 = me n := by
      unfold num me
      rw [h, show (12 : Int) + 1 = 13 by decide, cu13, ys_succ]
      simp [cu]
      omega
    have := date_of hv
    rw [e] at this
    exact ⟨this.2.2, fun h' => absurd h' (by omega), fun _ => ⟨this.1, this.2.1⟩⟩
theorem next_day (n : Int) : (n + 1 < me n → yr (n + 1) = yr n ∧ mo (n + 1) = mo n ∧ dy (n + 1) = dy n + 1) ∧ (¬ n + 1 < me n → n + 1 = me n) := by
  have h := in_month n
  have e := num_eq n
  refine ⟨fun c => ?_, fun c => by omega⟩
  obtain ⟨a, b, d⟩ := same_month (n := n) (k := n + 1) (by omega) c
  exact ⟨a, b, by omega⟩
theorem day_one {n : Int} : dy n = 1 ↔ n = ms n := by
  have := num_eq n
  omega
/-- tomorrow's day is the first one just at the end of a month -/
theorem next_day_one (n : Int) : dy (n + 1) = 1 ↔ n + 1 = me n := by
  have h := next_day n
  have hd := dy_bd n
  constructor
  · intro h1
    rcases Int.lt_or_le (n + 1) (me n) with c | c
    · have := h.1 c; omega
    · exact h.2 (by omega)
  · intro h1
    rw [h1]
    exact (next_month n).1
theorem yr_mono {a b : Int} (h : a ≤ b) : yr a ≤ yr b := by
  rcases Int.lt_or_le (yr b) (yr a) with c | c
  · have ha := num_year (date_num a).1
    have hb := num_year (date_num b).1
    rw [(date_num a).2] at ha
    rw [(date_num b).2] at hb
    have := ys_lt c
    omega
  · exact c
theorem yr_le {n y : Int} : yr n ≤ y ↔ n < ys (y + 1) := by
  have ha := num_year (date_num n).1
  rw [(date_num n).2] at ha
  constructor
  · intro h
    rcases Int.lt_or_eq_of_le h with c | c
    · have := ys_lt (show yr n < y + 1 by omega)
      have h2 := ys_succ y
      omega
    · rw [← c]; omega
  · intro h
    rcases Int.lt_or_le y (yr n) with c | c
    · have : y + 1 ≤ yr n := by omega
      rcases Int.lt_or_eq_of_le this with c2 | c2
      · have := ys_lt c2
        have := ys_succ (y + 1)
        have := lp01 (y + 1)
        omega
      · rw [← c2] at ha; omega
    · exact c
/- the steps of the search -/
theorem skip_month {s : Sch} {a x : Int} (h : NoFit s a x) (hm : s.M (mo (x / 86400)) = false) : NoFit s a (86400 * me (x / 86400)) := by
  refine h.join fun y h1 h2 hf => ?_
  have hi := in_month (x / 86400)
  have := same_month (n := x / 86400) (k := y / 86400) (by omega) (by omega)
  have := hf.1.1
  rw [(same_month (n := x / 86400) (k := y / 86400) (by omega) (by omega)).2.1, hm] at this
  exact absurd this (by decide)
theorem skip_day {s : Sch} {a x : Int} (h : NoFit s a x) (hd : s.D (x / 86400) = false) : NoFit s a (86400 * (x / 86400 + 1)) := by
  refine h.join fun y h1 h2 hf => ?_
  have e : y / 86400 = x / 86400 := by omega
  have := hf.1.2
  rw [e, hd] at this
  exact absurd this (by decide)
theorem skip_hour {s : Sch} {a x : Int} (h : NoFit s a x) (hh : s.H (x % 86400 / 3600) = false) : NoFit s a (3600 * (x / 3600 + 1)) := by
  refine h.join fun y h1 h2 hf => ?_
  have e : y % 86400 / 3600 = x % 86400 / 3600 := by omega
  have := hf.2.1
  rw [e, hh] at this
  exact absurd this (by decide)
theorem skip_minute {s : Sch} {a x : Int} (h : NoFit s a x) (hh : s.I (x % 3600 / 60) = false) : NoFit s a (60 * (x / 60 + 1)) := by
  refine h.join fun y h1 h2 hf => ?_
  have e : y % 86400 % 3600 / 60 = x % 3600 / 60 := by omega
  have := hf.2.2.1
  rw [e, hh] at this
  exact absurd this (by decide)
theorem skip_second {s : Sch} {a x : Int} (h : NoFit s a x) (hh : s.S (x % 60) = false) : NoFit s a (x + 1) := by
  refine h.join fun y h1 h2 hf => ?_
  have e : y % 86400 % 60 = x % 60 := by omega
  have := hf.2.2.2
  rw [e, hh] at this
  exact absurd this (by decide)
/-- the search may be left beyond the last year -/
theorem past {s : Sch} {a x last : Int} (h : NoFit s a x) (hy : last < yr (x / 86400)) : IsNext s a last none := fun y h1 h2 => by
  rcases Int.lt_or_le y x with c | c
  · exact h y h1 c
  · have := yr_mono (show x / 86400 ≤ y / 86400 by omega)
    omega
theorem found {s : Sch} {a x last : Int} (h : NoFit s a x) (ha : a ≤ x) (hy : yr (x / 86400) ≤ last) (h1 : s.M (mo (x / 86400)) = true) (h2 : s.D (x / 86400) = true) (h3 : s.H (x % 86400 / 3600) = true)
    (h4 : s.I (x % 3600 / 60) = true) (h5 : s.S (x % 60) = true) : IsNext s a last (some x) := by
  refine ⟨ha, ⟨⟨h1, h2⟩, h3, ?_, ?_⟩, hy, h⟩
  · rw [show x % 86400 % 3600 / 60 = x % 3600 / 60 by omega]; exact h4
  · rw [show x % 86400 % 60 = x % 60 by omega]; exact h5
/-- what holds of the search's time wherever it begins again, once it was set back to a beginning -/
def Set (s : Sch) (x : Int) : Prop :=
  (s.M (mo (x / 86400)) = true ∨ x = 86400 * ms (x / 86400)) ∧ (s.D (x / 86400) = true ∨ x % 86400 = 0) ∧
  (s.H (x % 86400 / 3600) = true ∨ x % 3600 = 0) ∧ (s.I (x % 3600 / 60) = true ∨ x % 60 = 0)
theorem ms_me (n : Int) : ms (me n) = me n := (day_one.1 (next_month n).1).symm
theorem Set.month (s : Sch) (n : Int) : Set s (86400 * me n) := by
  have e : 86400 * me n / 86400 = me n := by omega
  refine ⟨Or.inr ?_, Or.inr (by omega), Or.inr (by omega), Or.inr (by omega)⟩
  rw [e, ms_me]
theorem Set.next {s : Sch} {x y : Int} (h : x < y) (h' : y ≤ 86400 * (x / 86400 + 1)) (hM : s.M (mo (x / 86400)) = true)
    (hD : s.D (x / 86400) = true ∨ y % 86400 = 0) (hH : y % 3600 = 0 ∨ (s.H (x % 86400 / 3600) = true ∧ y ≤ 3600 * (x / 3600 + 1))) (hI : y % 60 = 0) : Set s y := by
  rcases Int.lt_or_eq_of_le h' with c | c
  · have e : y / 86400 = x / 86400 := by omega
    refine ⟨Or.inl (by rw [e]; exact hM), ?_, ?_, Or.inr hI⟩
    · rcases hD with hD | hD
      · exact Or.inl (by rw [e]; exact hD)
      · exact Or.inr hD
    · rcases hH with hH | ⟨hH, hy⟩
      · exact Or.inr hH
      · rcases Int.lt_or_eq_of_le hy with c2 | c2
        · refine Or.inl ?_
          rw [show y % 86400 / 3600 = x % 86400 / 3600 by omega]; exact hH
        · exact Or.inr (by omega)
  · have e : y / 86400 = x / 86400 + 1 := by omega
    refine ⟨?_, Or.inr (by omega), Or.inr (by omega), Or.inr hI⟩
    rw [e]
    have hn := next_day (x / 86400)
    rcases Int.lt_or_le (x / 86400 + 1) (me (x / 86400)) with c2 | c2
    · refine Or.inl ?_
      rw [(hn.1 c2).2.1]; exact hM
    · refine Or.inr ?_
      rw [hn.2 (by omega), ms_me, ← hn.2 (by omega)]
      exact c
/- The search for a day's second. -/
/-- none of the day's seconds from a on and ahead of b fits -/
def NoT (s : Sch) (a b : Int) : Prop := ∀ r, a ≤ r → r < b → ¬ fitT s r
theorem NoT.none {s : Sch} {a b : Int} (h : b ≤ a) : NoT s a b := fun y h1 h2 => absurd h1 (by omega)
theorem NoT.join {s : Sch} {a b c : Int} (h : NoT s a b) (h' : NoT s b c) : NoT s a c := fun y h1 h2 => by
  rcases Int.lt_or_le y b with c | c
  · exact h y h1 c
  · exact h' y c h2
theorem NoT.hour {s : Sch} {a h : Int} (n : NoT s a (3600 * h)) (hh : s.H h = false) : NoT s a (3600 * (h + 1)) :=
  n.join fun r h1 h2 hf => by
    have e : r / 3600 = h := by omega
    have := hf.1
    rw [e, hh] at this
    exact absurd this (by decide)
theorem NoT.minute {s : Sch} {a h m : Int} (n : NoT s a (3600 * h + 60 * m)) (h0 : 0 ≤ m) (h1 : m < 60) (hh : s.I m = false) : NoT s a (3600 * h + 60 * (m + 1)) :=
  n.join fun r h1 h2 hf => by
    have e : r % 3600 / 60 = m := by omega
    have := hf.2.1
    rw [e, hh] at this
    exact absurd this (by decide)
theorem NoT.second {s : Sch} {a h m k : Int} (n : NoT s a (3600 * h + 60 * m + k)) (h0 : 0 ≤ k) (h1 : k < 60) (hh : s.S k = false) : NoT s a (3600 * h + 60 * m + (k + 1)) :=
  n.join fun r h1 h2 hf => by
    have e : r % 60 = k := by omega
    have := hf.2.2
    rw [e, hh] at this
    exact absurd this (by decide)
theorem fitT_at {s : Sch} {h m k : Int} (m0 : 0 ≤ m) (m1 : m < 60) (k0 : 0 ≤ k) (k1 : k < 60) (hh : s.H h = true) (hm : s.I m = true) (hk : s.S k = true) : fitT s (3600 * h + 60 * m + k) := by
  refine ⟨?_, ?_, ?_⟩
  · rw [show (3600 * h + 60 * m + k) / 3600 = h by omega]; exact hh
  · rw [show (3600 * h + 60 * m + k) % 3600 / 60 = m by omega]; exact hm
  · rw [show (3600 * h + 60 * m + k) % 60 = k by omega]; exact hk
/-- what the search for a day's least second from a on answers: a second, or -1 -/
def IsTime (s : Sch) (a r : Int) : Prop := (r = -1 ∧ NoT s a 86400) ∨ (a ≤ r ∧ r < 86400 ∧ fitT s r ∧ NoT s a r)
theorem day_none {s : Sch} {a n r : Int} (h : NoFit s a (86400 * n + r)) (hr : 0 ≤ r) (hd : fitDay s n → NoT s r 86400) : NoFit s a (86400 * (n + 1)) := by
  refine h.join fun y h1 h2 hf => ?_
  have e : y / 86400 = n := by omega
  have h3 := hf.1
  rw [e] at h3
  exact hd h3 (y % 86400) (by omega) (by omega) hf.2
theorem day_some {s : Sch} {a n r t last : Int} (h : NoFit s a (86400 * n + r)) (ha : a ≤ 86400 * n + r) (hr : 0 ≤ r) (hy : yr n ≤ last) (hd : fitDay s n) (ht : r ≤ t) (ht' : t < 86400) (hf : fitT s t) (hn : NoT s r t) :
    IsNext s a last (some (86400 * n + t)) := by
  have e : (86400 * n + t) / 86400 = n := by omega
  have e2 : (86400 * n + t) % 86400 = t := by omega
  refine ⟨by omega, ⟨by rw [e]; exact hd, by rw [e2]; exact hf⟩, by rw [e]; exact hy, h.join fun y h1 h2 hf => ?_⟩
  have e3 : y / 86400 = n := by omega
  exact hn (y % 86400) (by omega) (by omega) hf.2
theorem day_past {s : Sch} {a n last : Int} (h : NoFit s a (86400 * n)) (hy : last < yr n) : IsNext s a last none :=
  past h (by rw [show 86400 * n / 86400 = n by omega]; exact hy)
/- Two schedules. -/
theorem IsNext.congr {s s' : Sch} {a last : Int} {r : Option Int} (he : ∀ x, fit s x ↔ fit s' x) (h : IsNext s a last r) : IsNext s' a last r := by
  cases r with
  | none => exact fun y h1 h2 hf => h y h1 h2 ((he y).2 hf)
  | some x => exact ⟨h.1, (he x).1 h.2.1, h.2.2.1, fun y h1 h2 hf => h.2.2.2 y h1 h2 ((he y).2 hf)⟩
/-- the earlier of two -/
def earlier : Option Int → Option Int → Option Int
  | none, b => b
  | some a, none => some a
  | some a, some b => if b < a then some b else some a
theorem IsNext.union {s s1 s2 : Sch} {a last : Int} {r1 r2 : Option Int} (he : ∀ x, fit s x ↔ fit s1 x ∨ fit s2 x) (h1 : IsNext s1 a last r1) (h2 : IsNext s2 a last r2) : IsNext s a last (earlier r1 r2) := by
  cases r1 with
  | none => cases r2 with
    | none =>
      intro y a b hf
      rcases (he y).1 hf with c | c
      · exact h1 y a b c
      · exact h2 y a b c
    | some x =>
      refine ⟨h2.1, (he x).2 (Or.inr h2.2.1), h2.2.2.1, fun y a b hf => ?_⟩
      rcases (he y).1 hf with c | c
      · exact h1 y a (Int.le_trans (yr_mono (by omega)) h2.2.2.1) c
      · exact h2.2.2.2 y a b c
  | some z => cases r2 with
    | none =>
      refine ⟨h1.1, (he z).2 (Or.inl h1.2.1), h1.2.2.1, fun y a b hf => ?_⟩
      rcases (he y).1 hf with c | c
      · exact h1.2.2.2 y a b c
      · exact h2 y a (Int.le_trans (yr_mono (by omega)) h1.2.2.1) c
    | some x =>
      show IsNext s a last (if x < z then some x else some z)
      split
      · refine ⟨h2.1, (he x).2 (Or.inr h2.2.1), h2.2.2.1, fun y a b hf => ?_⟩
        rcases (he y).1 hf with c | c
        · exact h1.2.2.2 y a (by omega) c
        · exact h2.2.2.2 y a b c
      · refine ⟨h1.1, (he z).2 (Or.inl h1.2.1), h1.2.2.1, fun y a b hf => ?_⟩
        rcases (he y).1 hf with c | c
        · exact h1.2.2.2 y a b c
        · exact h2.2.2.2 y a (by omega) c
/-- fewer seconds -/
theorem IsNext.fewer {s s' : Sch} {a last : Int} {r r' : Option Int} (he : ∀ x, fit s' x → fit s x) (h : IsNext s a last r) (h' : IsNext s' a last r') :
    (r = none → r' = none) ∧ ∀ x y, r = some x → r' = some y → x ≤ y := by
  refine ⟨fun e => ?_, fun x y e1 e2 => ?_⟩
  · subst e
    cases r' with
    | none => rfl
    | some x => exact absurd (he x h'.2.1) (h x h'.1 h'.2.2.1)
  · subst e1 e2
    rcases Int.lt_or_le y x with c | c
    · exact absurd (he y h'.2.1) (h.2.2.2 y h'.1 c)
    · exact c
/- How Go's package time computes dates: plain laws. -/
theorem mul_split (c : Int) (h0 : 0 ≤ c) (h1 : c ≤ 146099) : 2939745 * c / 4294967296 = c / 1461 ∧ 2939745 * c % 4294967296 / 2939745 = c % 1461 := by
  have h := Int.mul_ediv_add_emod c 1461
  have h2 := Int.emod_nonneg c (show (1461 : Int) ≠ 0 by decide)
  have h3 := Int.emod_lt_of_pos c (show (0 : Int) < 1461 by decide)
  generalize c / 1461 = q at *
  generalize c % 1461 = r at *
  have e : 2939745 * c = 4294967296 * q + (149 * q + 2939745 * r) := by omega
  rw [e]
  constructor
  · omega
  · have e2 : (4294967296 * q + (149 * q + 2939745 * r)) % 4294967296 = 149 * q + 2939745 * r := by omega
    rw [e2]
    omega
set_option maxRecDepth 100000 in
theorem month_split_nat : ∀ a : Fin 366, (2141 * (a.val : Int) + 197913) / 65536 = (5 * (a.val : Int) + 461) / 153 ∧ (2141 * (a.val : Int) + 197913) % 65536 / 2141 = (5 * (a.val : Int) + 461) % 153 / 5 := by decide
theorem month_split (a : Int) (h0 : 0 ≤ a) (h1 : a ≤ 365) : (2141 * a + 197913) / 65536 = (5 * a + 461) / 153 ∧ (2141 * a + 197913) % 65536 / 2141 = (5 * a + 461) % 153 / 5 := by
  obtain ⟨k, rfl⟩ : ∃ k : Nat, a = k := ⟨a.toNat, by omega⟩
  exact month_split_nat ⟨k, by omega⟩
theorem ayday_of (m : Int) (h0 : 3 ≤ m) (h1 : m ≤ 14) : (979 * m - 2919) / 32 = (153 * m - 457) / 5 := by
  have hm : m = 3 ∨ m = 4 ∨ m = 5 ∨ m = 6 ∨ m = 7 ∨ m = 8 ∨ m = 9 ∨ m = 10 ∨ m = 11 ∨ m = 12 ∨ m = 13 ∨ m = 14 := by omega
  rcases hm with rfl | rfl | rfl | rfl | rfl | rfl | rfl | rfl | rfl | rfl | rfl | rfl <;> decide
/-- A date's number by the years that begin with March. -/
def jn (m : Int) : Int := if m < 3 then 1 else 0
theorem num_mar (y m d : Int) (h1 : 1 ≤ m) (h2 : m ≤ 12) : num y m d = mar (y - jn m) + (153 * (m + 12 * jn m) - 457) / 5 + d - 1 - 719468 := by
  unfold num jn
  by_cases h : m < 3
  · rw [if_pos h]
    have e := ys_next (y - 1)
    rw [show y - 1 + 1 = y by omega] at e
    have hm : m = 1 ∨ m = 2 := by omega
    rcases hm with rfl | rfl
    · simp [cu]; omega
    · simp [cu]; omega
  · rw [if_neg h]
    have e := ys_mar y
    have hc : cu y m = 59 + lp y + (153 * m - 457) / 5 := by
      unfold cu
      rw [if_neg (by omega), if_neg (by omega)]
    rw [hc, show y - 0 = y by omega, show m + 12 * 0 = m by omega]
    omega
/-- the number of days from March 1 of year 0 to March 1 of a year, split by centuries -/
theorem mar_split (y : Int) : mar y = 146097 * (y / 100) / 4 + 1461 * (y % 100) / 4 := by
  have h := mar_cen (y / 100) (y % 100) (by omega) (by omega)
  rw [show 100 * (y / 100) + y % 100 = y by omega] at h
  rw [h]
  generalize y / 100 = c
  generalize y % 100 = r
  have e1 : 146097 * c / 4 = 36524 * c + c / 4 := by omega
  have e2 : 1461 * r / 4 = 365 * r + r / 4 := by omega
  omega
theorem mar_far (y k : Int) : mar (y + 400 * k) = mar y + 146097 * k := by
  unfold mar
  omega
/- Sets as bits, and the schedule of six sets. -/
def bitOf (b : Nat) (v : Int) : Bool := b.testBit v.toNat
theorem and_pow (b v : Nat) : (2 ^ v &&& b) = if b.testBit v then 2 ^ v else 0 := by
  apply Nat.eq_of_testBit_eq
  intro i
  rw [Nat.testBit_and, Nat.testBit_two_pow]
  by_cases e : v = i
  · subst e
    cases h : b.testBit v <;> simp
  · cases h : b.testBit v <;> simp [e]
theorem shr_one (b v : Nat) : (b >>> v) &&& 1 = if b.testBit v then 1 else 0 := by
  rw [Nat.and_one_is_mod, Nat.testBit_eq_decide_div_mod_eq, Nat.shiftRight_eq_div_pow]
  have := Nat.mod_two_eq_zero_or_one (b / 2 ^ v)
  by_cases h : b / 2 ^ v % 2 = 1
  · simp [h]
  · simp [h]; omega
def wd (n : Int) : Int := (n + 4) % 7
/-- whether the two fields of days allow a day -/
def dayOk (dom dow : Nat) (n : Int) : Bool :=
  if dom.testBit 63 || dow.testBit 63 then bitOf dom (dy n) && bitOf dow (wd n) else bitOf dom (dy n) || bitOf dow (wd n)
/-- the schedule of six sets of bits: second, minute, hour, day of month, month, day of week -/
def schOf (s i h dom m dow : Nat) : Sch := ⟨bitOf m, dayOk dom dow, bitOf h, bitOf i, bitOf s⟩
/- How the reference finds a day's date: plain laws. -/
theorem yr_of {n y : Int} (h : ys y ≤ n) (h' : n < ys (y + 1)) : yr n = y := by
  have h1 := yr_le.2 h'
  rcases Int.lt_or_le (yr n) y with c | c
  · have h2 : yr n ≤ y - 1 := by omega
    have h3 := yr_le.1 h2
    rw [show y - 1 + 1 = y by omega] at h3
    omega
  · omega
theorem yr_in (n : Int) : ys (yr n) ≤ n ∧ n < ys (yr n + 1) := by
  have := num_year (date_num n).1
  rw [(date_num n).2] at this
  exact this
theorem ys_up (y : Int) (k : Nat) : ys (y + k) ≤ ys y + 366 * k := by
  induction k with
  | zero => simp
  | succ k ih =>
    have e : y + (k + 1 : Nat) = (y + k) + 1 := by omega
    rw [e, ys_succ]
    have := lp01 (y + k)
    omega
theorem ys1970 : ys 1970 = 0 := by decide
theorem guess_pos {n : Int} (h : 0 ≤ n) : ys (1970 + n / 366) ≤ n := by
  have := ys_up 1970 (n / 366).toNat
  rw [ys1970, show (((n / 366).toNat : Nat) : Int) = n / 366 by omega] at this
  omega
theorem guess_neg {n : Int} (h : n < 0) : ys (1970 + n / 365 - 1) ≤ n := by
  have := ys_mono' (1970 + n / 365 - 1) (1 - n / 365).toNat
  rw [show (((1 - n / 365).toNat : Nat) : Int) = 1 - n / 365 by omega, show 1970 + n / 365 - 1 + (1 - n / 365) = 1970 by omega, ys1970] at this
  omega
theorem month_go {n y m : Int} (hy : yr n = y) (h1 : 1 ≤ m) (h2 : m ≤ 12) (hr : md y m ≤ n - (ys y + cu y m)) : m < 12 ∧ ys y + cu y (m + 1) ≤ n := by
  have h := yr_in n
  rw [hy] at h
  have hs := cu_succ y m h1 h2
  refine ⟨?_, by omega⟩
  rcases Int.lt_or_eq_of_le h2 with c | c
  · exact c
  · subst c
    rw [show (12 : Int) + 1 = 13 by decide, cu13] at hs
    have := ys_succ y
    omega
theorem month_end {n y m : Int} (h1 : 1 ≤ m) (h2 : m ≤ 12) (h0 : ys y + cu y m ≤ n) (hr : n - (ys y + cu y m) < md y m) : yr n = y ∧ mo n = m ∧ dy n = n - (ys y + cu y m) + 1 := by
  have hv : Valid y m (n - (ys y + cu y m) + 1) := ⟨h1, h2, by omega, by omega⟩
  have := date_of hv
  rwa [show num y m (n - (ys y + cu y m) + 1) = n by unfold num; omega] at this
theorem cu1 (y : Int) : cu y 1 = 0 := by simp [cu]
/-- the bounds that the walk needs -/
theorem yr_bd {n : Int} (h0 : -719162 ≤ n) (h1 : n ≤ 3100000) : 1 ≤ yr n ∧ yr n ≤ 10458 := by
  constructor
  · rcases Int.lt_or_le (yr n) 1 with c | c
    · have : yr n ≤ 0 := by omega
      have := yr_le.1 this
      rw [show ys (0 + 1) = -719162 by decide] at this
      omega
    · exact c
  · refine yr_le.2 ?_
    rw [show ys (10458 + 1) = 3100544 by decide]
    omega
/- Sets put together, met and parted in one field of a schedule: plain laws. -/
/-- six sets of bits: second, minute, hour, day of month, month, day of week -/
structure SB where
  s : Nat
  i : Nat
  h : Nat
  d : Nat
  m : Nat
  w : Nat
def SB.sch (x : SB) : Sch := schOf x.s x.i x.h x.d x.m x.w
def SB.put (x : SB) (k v : Nat) : SB :=
  match k with
  | 0 => ⟨v, x.i, x.h, x.d, x.m, x.w⟩
  | 1 => ⟨x.s, v, x.h, x.d, x.m, x.w⟩
  | 2 => ⟨x.s, x.i, v, x.d, x.m, x.w⟩
  | 3 => ⟨x.s, x.i, x.h, v, x.m, x.w⟩
  | 4 => ⟨x.s, x.i, x.h, x.d, v, x.w⟩
  | _ => ⟨x.s, x.i, x.h, x.d, x.m, v⟩
theorem day_or_l (a b w : Nat) (h : a.testBit 63 = b.testBit 63) (n : Int) : dayOk (a ||| b) w n = (dayOk a w n || dayOk b w n) := by
  unfold dayOk bitOf
  rw [Nat.testBit_or, Nat.testBit_or, h]
  cases b.testBit 63 <;> cases w.testBit 63 <;> cases a.testBit (dy n).toNat <;> cases b.testBit (dy n).toNat <;> cases w.testBit (wd n).toNat <;> rfl
theorem day_or_r (a b d : Nat) (h : a.testBit 63 = b.testBit 63) (n : Int) : dayOk d (a ||| b) n = (dayOk d a n || dayOk d b n) := by
  unfold dayOk bitOf
  rw [Nat.testBit_or, Nat.testBit_or, h]
  cases b.testBit 63 <;> cases d.testBit 63 <;> cases a.testBit (wd n).toNat <;> cases b.testBit (wd n).toNat <;> cases d.testBit (dy n).toNat <;> rfl
theorem day_and_l (a b w : Nat) (h : a.testBit 63 = b.testBit 63) (n : Int) : dayOk (a &&& b) w n = (dayOk a w n && dayOk b w n) := by
  unfold dayOk bitOf
  rw [Nat.testBit_and, Nat.testBit_and, h]
  cases b.testBit 63 <;> cases w.testBit 63 <;> cases a.testBit (dy n).toNat <;> cases b.testBit (dy n).toNat <;> cases w.testBit (wd n).toNat <;> rfl
theorem day_and_r (a b d : Nat) (h : a.testBit 63 = b.testBit 63) (n : Int) : dayOk d (a &&& b) n = (dayOk d a n && dayOk d b n) := by
  unfold dayOk bitOf
  rw [Nat.testBit_and, Nat.testBit_and, h]
  cases b.testBit 63 <;> cases d.testBit 63 <;> cases a.testBit (wd n).toNat <;> cases b.testBit (wd n).toNat <;> cases d.testBit (dy n).toNat <;> rfl
theorem bit_or (a b : Nat) (v : Int) : bitOf (a ||| b) v = (bitOf a v || bitOf b v) := Nat.testBit_or ..
theorem bit_and (a b : Nat) (v : Int) : bitOf (a &&& b) v = (bitOf a v && bitOf b v) := Nat.testBit_and ..
theorem fit_union (x : SB) (k a b : Nat) (h : a.testBit 63 = b.testBit 63) (t : Int) :
    fit (x.put k (a ||| b)).sch t ↔ fit (x.put k a).sch t ∨ fit (x.put k b).sch t := by
  unfold SB.put
  split <;> simp only [fit, fitDay, fitT, SB.sch, schOf, bit_or, day_or_l a b _ h, day_or_r a b _ h, Bool.or_eq_true] <;> grind
theorem fit_meet (x : SB) (k a b : Nat) (h : a.testBit 63 = b.testBit 63) (t : Int) :
    fit (x.put k (a &&& b)).sch t ↔ fit (x.put k a).sch t ∧ fit (x.put k b).sch t := by
  unfold SB.put
  split <;> simp only [fit, fitDay, fitT, SB.sch, schOf, bit_and, day_and_l a b _ h, day_and_r a b _ h, Bool.and_eq_true] <;> grind
/-- no second fits both where a field other than the two of days has no value in both -/
theorem fit_apart (x : SB) (k a b : Nat) (h3 : k ≠ 3) (h5 : k < 5) (hd : ∀ v, v < 63 → ¬ (a.testBit v = true ∧ b.testBit v = true)) (t : Int) :
    ¬ (fit (x.put k a).sch t ∧ fit (x.put k b).sch t) := by
  have hm := mo_bd (t / 86400)
  intro ⟨h1, h2⟩
  have key : ∀ v : Int, 0 ≤ v → v < 63 → bitOf a v = true → bitOf b v = true → False := fun v v0 v1 ha hb => hd v.toNat (by omega) ⟨ha, hb⟩
  unfold SB.put at h1 h2
  have hk : k = 0 ∨ k = 1 ∨ k = 2 ∨ k = 4 := by omega
  rcases hk with rfl | rfl | rfl | rfl
  · exact key _ (by omega) (by omega) h1.2.2.2 h2.2.2.2
  · exact key _ (by omega) (by omega) h1.2.2.1 h2.2.2.1
  · exact key _ (by omega) (by omega) h1.2.1 h2.2.1
  · exact key _ (by omega) (by omega) h1.1.1 h2.1.1
/-- a field's own sets put together are the schedule -/
theorem put_self (x : SB) (k : Nat) (h : k < 6) : x.put k (match k with | 0 => x.s | 1 => x.i | 2 => x.h | 3 => x.d | 4 => x.m | _ => x.w) = x := by
  have hk : k = 0 ∨ k = 1 ∨ k = 2 ∨ k = 3 ∨ k = 4 ∨ k = 5 := by omega
  rcases hk with rfl | rfl | rfl | rfl | rfl | rfl <;> rfl
theorem split_or (b n : Nat) : (b &&& (2 ^ n - 1)) ||| (b ^^^ (b &&& (2 ^ n - 1))) = b := by
  apply Nat.eq_of_testBit_eq
  intro i
  rw [Nat.testBit_or, Nat.testBit_xor, Nat.testBit_and]
  cases b.testBit i <;> cases (2 ^ n - 1).testBit i <;> rfl
theorem split_apart (b c : Nat) (v : Nat) : ¬ ((b &&& c).testBit v = true ∧ (b ^^^ (b &&& c)).testBit v = true) := by
  rw [Nat.testBit_xor, Nat.testBit_and]
  cases b.testBit v <;> cases c.testBit v <;> decide
theorem IsNext.meet {s s1 s2 : Sch} {a last : Int} {r1 r2 r : Option Int} (he : ∀ x, fit s x ↔ fit s1 x ∧ fit s2 x) (h1 : IsNext s1 a last r1) (h2 : IsNext s2 a last r2) (h : IsNext s a last r) :
    (r1 = none ∨ r2 = none → r = none) ∧ (∀ x, r1 = some x → r2 = some x → r = some x) ∧ (∀ x y z, r1 = some x → r2 = some y → r = some z → x ≤ z ∧ y ≤ z) := by
  have f1 := IsNext.fewer (fun x hx => ((he x).1 hx).1) h1 h
  have f2 := IsNext.fewer (fun x hx => ((he x).1 hx).2) h2 h
  refine ⟨fun e => ?_, fun x e1 e2 => ?_, fun x y z e1 e2 e3 => ⟨f1.2 x z e1 e3, f2.2 y z e2 e3⟩⟩
  · rcases e with e | e
    · exact f1.1 e
    · exact f2.1 e
  · subst e1 e2
    refine h.unique ?_
    exact ⟨h1.1, (he x).2 ⟨h1.2.1, h2.2.1⟩, h1.2.2.1, fun y a b hf => h1.2.2.2 y a b ((he y).1 hf).1⟩
/-- the two never at once -/
theorem IsNext.apart {s1 s2 : Sch} {a last x y : Int} (hd : ∀ t, ¬ (fit s1 t ∧ fit s2 t)) (h1 : IsNext s1 a last (some x)) (h2 : IsNext s2 a last (some y)) : x ≠ y := by
  intro e
  subst e
  exact hd x ⟨h1.2.1, h2.2.1⟩
/-- a schedule that has no hour, no minute or no second -/
theorem IsNext.never {s : Sch} {a last : Int} (h : (∀ v, 0 ≤ v → v ≤ 23 → s.H v = false) ∨ (∀ v, 0 ≤ v → v ≤ 59 → s.I v = false) ∨ (∀ v, 0 ≤ v → v ≤ 59 → s.S v = false)) : IsNext s a last none := by
  intro y _ _ hf
  rcases h with h | h | h
  · have := h (y % 86400 / 3600) (by omega) (by omega)
    have h2 := hf.2.1
    rw [this] at h2
    exact absurd h2 (by decide)
  · have := h (y % 86400 % 3600 / 60) (by omega) (by omega)
    have h2 := hf.2.2.1
    rw [this] at h2
    exact absurd h2 (by decide)
  · have := h (y % 86400 % 60) (by omega) (by omega)
    have h2 := hf.2.2.2
    rw [this] at h2
    exact absurd h2 (by decide)
/-- the least second from a on that fits, of a year up to last -/
noncomputable def nx (s : Sch) (a last : Int) : Option Int := by
  classical
  exact if h : ∃ r, IsNext s a last r then h.choose else none
theorem nx_eq {s : Sch} {a last : Int} {r : Option Int} (h : IsNext s a last r) : nx s a last = r := by
  have he : ∃ r, IsNext s a last r := ⟨r, h⟩
  unfold nx
  rw [dif_pos he]
  exact he.choose_spec.unique h
end Go.Proofs.Ytlgdaegaahnkbaa.Cal
