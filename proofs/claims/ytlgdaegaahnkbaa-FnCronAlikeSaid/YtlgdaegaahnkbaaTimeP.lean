/- What the printed functions of package time answer: plain laws. -/
import Derived.Test.YtlgdaegaahnkbaaMCx2
import Derived.Test.YtlgdaegaahnkbaaCal
namespace Go.Proofs.Ytlgdaegaahnkbaa.Tm
open Go Go.RowKit Cal MC
set_option linter.unusedVariables false
set_option linter.unusedSimpArgs false
/-- Days from the beginning of absolute years to 1970. -/
def K : Int := 106751991073400
theorem u64_in (a : Int) (h0 : 0 ≤ a) (h1 : a < 18446744073709551616) : IntKind.u64.wrap a = a := by rw [IntKind.wrap_u64]; omega
theorem w64_in (a : Int) (h0 : -9223372036854775808 ≤ a) (h1 : a < 9223372036854775808) : wrap64 a = a := by unfold wrap64; omega
theorem days_f (x : Int) (h0 : -62135596800 ≤ x) (h1 : x ≤ 400000000000) : gotime_absSeconds_days.f (x + 9223372028741760000) = some (x / 86400 + 106751991073400) := by
  unfold gotime_absSeconds_days.f
  rw [Int.tdiv_eq_ediv_of_nonneg (by omega), u64_in _ (by omega) (by omega)]
  congr 1
  omega
theorem or3_small : ∀ r : Fin 4, r.val ||| 3 = 3 := by decide
theorem or3 (c : Int) (h0 : 0 ≤ c) (h1 : c < 146097) : Go.bits .or .u32 c 3 = 4 * (c / 4) + 3 := by
  obtain ⟨k, rfl⟩ : ∃ k : Nat, c = k := ⟨c.toNat, by omega⟩
  have h := u32_or_nat k 3 (by omega) (by decide)
  rw [show ((3 : Nat) : Int) = 3 from rfl] at h
  rw [h]
  have e : k ||| 3 = 4 * (k / 4) + 3 := by
    have a := Nat.two_pow_add_eq_or_of_lt (i := 2) (b := k % 4) (by omega) (k / 4)
    have b := Nat.two_pow_add_eq_or_of_lt (i := 2) (b := 3) (by omega) (k / 4)
    have r := or3_small ⟨k % 4, by omega⟩
    simp only at r
    rw [show (2 : Nat) ^ 2 = 4 by decide] at a b
    have hk : k = 4 * (k / 4) + k % 4 := by omega
    calc k ||| 3 = (4 * (k / 4) + k % 4) ||| 3 := by rw [← hk]
      _ = 4 * (k / 4) ||| (k % 4 ||| 3) := by rw [a, Nat.or_assoc]
      _ = 4 * (k / 4) + 3 := by rw [r, ← b]
  rw [e]
  omega
theorem split_f (n : Int) (h0 : -719162 ≤ n) (h1 : n ≤ 4000000) : gotime_absDays_split.f (n + 106751991073400) = some (cen (n + 719468) + 2922770224, cyr (n + 719468), ayd (n + 719468)) := by
  have e0 : IntKind.u64.wrap (IntKind.u64.wrap (4 * (n + 106751991073400)) + 3) = 4 * (n + 719468) + 3 + 146097 * 2922770224 := by
    rw [u64_in (4 * (n + 106751991073400)) (by omega) (by omega), u64_in _ (by omega) (by omega)]; omega
  have e1 : Int.tmod (4 * (n + 719468) + 3 + 146097 * 2922770224) 146097 = (4 * (n + 719468) + 3) % 146097 := by
    rw [Int.tmod_eq_emod_of_nonneg (by omega), Int.add_mul_emod_self_left]
  have e2 : Int.tdiv (4 * (n + 719468) + 3 + 146097 * 2922770224) 146097 = cen (n + 719468) + 2922770224 := by
    rw [Int.tdiv_eq_ediv_of_nonneg (by omega)]
    unfold cen
    omega
  have hs := split_days (n + 719468)
  have hy := split_year (n + 719468)
  have hc : (4 * (n + 719468) + 3) % 146097 / 4 = cdy (n + 719468) := rfl
  unfold gotime_absDays_split.f bits_Mul32.f
  rw [e0, e1, e2]
  have e3 : ((4 * (n + 719468) + 3) % 146097) % 4294967296 = (4 * (n + 719468) + 3) % 146097 := by omega
  rw [e3, or3 _ (by omega) (by omega), hc]
  generalize hcd : cdy (n + 719468) = c at *
  have hm := mul_split (4 * c + 3) (by omega) (by omega)
  have e4 : IntKind.u64.wrap (IntKind.u64.wrap 2939745 * IntKind.u64.wrap (4 * c + 3)) = 2939745 * (4 * c + 3) := by
    rw [u64_in 2939745 (by omega) (by omega), u64_in (4 * c + 3) (by omega) (by omega), u64_in _ (by omega) (by omega)]
  simp only [Option.bind_some, e4]
  have hcy : cyr (n + 719468) = (4 * c + 3) / 1461 := by unfold cyr; rw [hcd]
  have hay : ayd (n + 719468) = (4 * c + 3) % 1461 / 4 := by unfold ayd; rw [hcd]
  rw [hcy, hay]
  have q1 : IntKind.u64.wrap (cen (n + 719468) + 2922770224) = cen (n + 719468) + 2922770224 := u64_in _ (by unfold cen; omega) (by unfold cen; omega)
  rw [q1]
  generalize hz : 2939745 * (4 * c + 3) = z at *
  have z0 : 0 ≤ z := by omega
  have z1 : z ≤ 2939745 * 146099 := by omega
  obtain ⟨m1, m2⟩ := hm
  have q2 : wrap64 (z / 4294967296 % 4294967296) = (4 * c + 3) / 1461 := by
    rw [w64_in _ (by omega) (by omega)]; omega
  have q3 : Int.tdiv (z % 4294967296) 2939745 % 4294967296 / 4 = (4 * c + 3) % 1461 / 4 := by
    rw [Int.tdiv_eq_ediv_of_nonneg (by omega), m2, Int.emod_eq_of_lt (by omega) (by omega)]
  rw [q2, q3]
theorem month_f (a : Int) (h0 : 0 ≤ a) (h1 : a ≤ 365) : gotime_absYday_split.f a = some ((5 * a + 461) / 153, (5 * a + 461) % 153 / 5 + 1) := by
  have hm := month_split a h0 h1
  unfold gotime_absYday_split.f
  have e0 : ((2141 * ((a) % 4294967296)) % 4294967296 + 197913) % 4294967296 = 2141 * a + 197913 := by omega
  rw [e0]
  have e1 : Go.bits .and .u32 (2141 * a + 197913) 65535 = (2141 * a + 197913) % 65536 := by
    obtain ⟨k, rfl⟩ : ∃ k : Nat, a = k := ⟨a.toNat, by omega⟩
    have h := u32_and_nat (2141 * k + 197913) 65535 (by omega) (by decide)
    rw [show ((65535 : Nat) : Int) = 65535 from rfl, show ((2141 * k + 197913 : Nat) : Int) = 2141 * (k : Int) + 197913 by omega] at h
    rw [h, show (65535 : Nat) = 2 ^ 16 - 1 by decide, Nat.and_two_pow_sub_one_eq_mod]
    omega
  rw [e1, Int.tdiv_eq_ediv_of_nonneg (by omega)]
  have e2 : (2141 * a + 197913) % 65536 / 2141 % 4294967296 = (5 * a + 461) % 153 / 5 := by rw [← hm.2]; omega
  rw [e2, hm.1]
  congr 2
  omega
theorem janFeb_f (a : Int) : gotime_absYday_janFeb.f a = some (if 306 ≤ a then 1 else 0) := by
  unfold gotime_absYday_janFeb.f
  by_cases h : 306 ≤ a
  · rw [if_pos h, if_pos h]
  · rw [if_neg h, if_neg h]
theorem year_f (c y j : Int) (c0 : 0 ≤ c) (c1 : c ≤ 1000000) (y0 : 0 ≤ y) (y1 : y ≤ 99) (j0 : 0 ≤ j) (j1 : j ≤ 1) : gotime_absCentury_year.f (c + 2922770224) y j = some (100 * c + y + j) := by
  unfold gotime_absCentury_year.f
  rw [u64_in ((c + 2922770224) * 100) (by omega) (by omega), u64_in ((c + 2922770224) * 100 - 292277022400) (by omega) (by omega), w64_in ((c + 2922770224) * 100 - 292277022400) (by omega) (by omega), w64_in ((c + 2922770224) * 100 - 292277022400 + y) (by omega) (by omega), w64_in _ (by omega) (by omega)]
  congr 1
  omega
theorem mon_f (m j : Int) (m0 : 3 ≤ m) (m1 : m ≤ 14) (j0 : 0 ≤ j) (j1 : j ≤ 1) : gotime_absMonth_month.f m j = some (m - 12 * j) := by
  unfold gotime_absMonth_month.f
  rw [w64_in (j * 12) (by omega) (by omega), w64_in _ (by omega) (by omega)]
  congr 1
  omega
theorem cen_bd (n : Int) (h0 : -719162 ≤ n) (h1 : n ≤ 4000000) : 0 ≤ cen (n + 719468) ∧ cen (n + 719468) ≤ 1000000 := by unfold cen; omega
theorem jf_bd (a : Int) : 0 ≤ jf a ∧ jf a ≤ 1 := by unfold jf; split <;> omega
theorem date_f (n : Int) (h0 : -719162 ≤ n) (h1 : n ≤ 4000000) : gotime_absDays_date.f (n + 106751991073400) = some (yr n, mo n, dy n) := by
  have hy := split_year (n + 719468)
  have hm := split_month (n + 719468)
  have hc := cen_bd n h0 h1
  have hj := jf_bd (n + 719468)
  unfold gotime_absDays_date.f
  rw [split_f n h0 h1]
  simp only [Option.bind_some]
  rw [month_f _ (by omega) (by omega)]
  simp only [Option.bind_some]
  rw [janFeb_f]
  simp only [Option.bind_some]
  change (gotime_absCentury_year.f (cen (n + 719468) + 2922770224) (cyr (n + 719468)) (jf (n + 719468))).bind _ = _
  rw [year_f _ _ _ hc.1 hc.2 (by omega) (by omega) hj.1 hj.2]
  simp only [Option.bind_some]
  change (gotime_absMonth_month.f (amo (n + 719468)) (jf (n + 719468))).bind _ = _
  rw [mon_f _ _ (by omega) (by omega) hj.1 hj.2]
  rfl
theorem weekday_f (n : Int) (h0 : -719162 ≤ n) (h1 : n ≤ 4000000) : gotime_absDays_weekday.f (n + 106751991073400) = some (wd n) := by
  unfold gotime_absDays_weekday.f wd
  rw [u64_in _ (by omega) (by omega), Int.tmod_eq_emod_of_nonneg (by omega), w64_in _ (by omega) (by omega)]
  congr 1
  omega
theorem clock_f (x : Int) (h0 : -62135596800 ≤ x) (h1 : x ≤ 400000000000) : gotime_absSeconds_clock.f (x + 9223372028741760000) = some (x % 86400 / 3600, x % 3600 / 60, x % 60) := by
  unfold gotime_absSeconds_clock.f
  have e0 : wrap64 (Int.tmod (x + 9223372028741760000) 86400) = x % 86400 := by
    rw [Int.tmod_eq_emod_of_nonneg (by omega), w64_in _ (by omega) (by omega)]; omega
  rw [e0]
  have e1 : wrap64 (Int.tdiv (x % 86400) 3600) = x % 86400 / 3600 := by
    rw [Int.tdiv_eq_ediv_of_nonneg (by omega), w64_in _ (by omega) (by omega)]
  rw [e1]
  have e2 : wrap64 (x % 86400 - wrap64 (x % 86400 / 3600 * 3600)) = x % 3600 := by
    rw [w64_in (x % 86400 / 3600 * 3600) (by omega) (by omega), w64_in _ (by omega) (by omega)]; omega
  rw [e2]
  have e3 : wrap64 (Int.tdiv (x % 3600) 60) = x % 3600 / 60 := by
    rw [Int.tdiv_eq_ediv_of_nonneg (by omega), w64_in _ (by omega) (by omega)]
  rw [e3]
  have e4 : wrap64 (x % 3600 - wrap64 (x % 3600 / 60 * 60)) = x % 60 := by
    rw [w64_in (x % 3600 / 60 * 60) (by omega) (by omega), w64_in _ (by omega) (by omega)]; omega
  rw [e4]
theorem abs_parts (Y am d : Int) (h0 : 0 ≤ Y) (h1 : Y ≤ 292277122400) (a0 : 3 ≤ am) (a1 : am ≤ 14) (d0 : 1 ≤ d) (d1 : d ≤ 1000) :
    IntKind.u64.wrap (IntKind.u64.wrap (Int.tdiv (IntKind.u64.wrap (146097 * IntKind.u64.wrap (Int.tdiv Y 100))) 4) + IntKind.u64.wrap (wrap64 (wrap64 ((1461 * (Int.tmod Y 100 % 4294967296) % 4294967296 / 4 + (979 * am % 4294967296 - 2919) % 4294967296 / 32) % 4294967296 + d) - 1)))
      = mar Y + (153 * am - 457) / 5 + d - 1 := by
  have ha := ayday_of am a0 a1
  have hm := mar_split Y
  rw [Int.tdiv_eq_ediv_of_nonneg (a := Y) h0, Int.tmod_eq_emod_of_nonneg (a := Y) h0]
  have r0 : 0 ≤ Y % 100 := by omega
  have r1 : Y % 100 < 100 := by omega
  have c0 : 0 ≤ Y / 100 := by omega
  have c1 : Y / 100 ≤ 2922771224 := by omega
  generalize Y / 100 = c at *
  generalize Y % 100 = r at *
  rw [u64_in c (by omega) (by omega), u64_in (146097 * c) (by omega) (by omega), Int.tdiv_eq_ediv_of_nonneg (by omega), u64_in (146097 * c / 4) (by omega) (by omega)]
  have e1 : 1461 * (r % 4294967296) % 4294967296 / 4 = 1461 * r / 4 := by
    rw [Int.emod_eq_of_lt r0 (by omega), Int.emod_eq_of_lt (by omega) (by omega)]
  have e2 : (979 * am % 4294967296 - 2919) % 4294967296 / 32 = (153 * am - 457) / 5 := by
    rw [Int.emod_eq_of_lt (show 0 ≤ 979 * am by omega) (by omega), Int.emod_eq_of_lt (by omega) (by omega), ha]
  rw [e1, e2, hm]
  generalize hp : (153 * am - 457) / 5 = p
  have p0 : 0 ≤ p := by omega
  have p1 : p ≤ 400 := by omega
  have q0 : 0 ≤ 1461 * r / 4 := by omega
  have q1 : 1461 * r / 4 ≤ 40000 := by omega
  generalize 1461 * r / 4 = q at *
  have z0 : 0 ≤ 146097 * c / 4 := by omega
  have z1 : 146097 * c / 4 ≤ 200000000000000 := by omega
  generalize 146097 * c / 4 = z at *
  rw [Int.emod_eq_of_lt (by omega) (by omega), w64_in (q + p + d) (by omega) (by omega), w64_in (q + p + d - 1) (by omega) (by omega)]
  rw [u64_in (q + p + d - 1) (by omega) (by omega), u64_in _ (by omega) (by omega)]
  omega
theorem mar_far2 (y : Int) : mar (y + 292277022400) = mar y + 106751991073400 - 719468 := by
  have := mar_far y 730692556
  rw [show y + 400 * 730692556 = y + 292277022400 by omega] at this
  omega
theorem abs_f (y m d : Int) (y0 : 1 ≤ y) (y1 : y ≤ 12000) (m0 : 1 ≤ m) (m1 : m ≤ 12) (d0 : 1 ≤ d) (d1 : d ≤ 1000) : gotime_dateToAbsDays.f y m d = some (num y m d + 106751991073400) := by
  have hn := num_mar y m d m0 m1
  unfold jn at hn
  unfold gotime_dateToAbsDays.f
  have em : m % 4294967296 = m := by omega
  rw [em]
  by_cases h : m < 3
  · rw [if_pos h]
    rw [if_pos h] at hn
    have e0 : IntKind.u64.wrap (IntKind.u64.wrap (IntKind.u64.wrap y - 1) + 292277022400) = y - 1 + 292277022400 := by
      rw [u64_in y (by omega) (by omega), u64_in (y - 1) (by omega) (by omega), u64_in _ (by omega) (by omega)]
    have e1 : (m + 12 * 1) % 4294967296 = m + 12 * 1 := by omega
    rw [e0, e1, abs_parts (y - 1 + 292277022400) (m + 12 * 1) d (by omega) (by omega) (by omega) (by omega) d0 d1, mar_far2]
    congr 1
    omega
  · rw [if_neg h]
    rw [if_neg h] at hn
    have e0 : IntKind.u64.wrap (IntKind.u64.wrap (IntKind.u64.wrap y - 0) + 292277022400) = y - 0 + 292277022400 := by
      rw [u64_in y (by omega) (by omega), u64_in (y - 0) (by omega) (by omega), u64_in _ (by omega) (by omega)]
    rw [e0, abs_parts (y - 0 + 292277022400) (m + 12 * 0) d (by omega) (by omega) (by omega) (by omega) d0 d1, mar_far2]
    congr 1
    omega
theorem norm_in (h l b : Int) (l0 : 0 ≤ l) (l1 : l < b) : gotime_norm.f h l b = some (h, l) := by
  unfold gotime_norm.f
  rw [if_neg (by omega), if_neg (by omega)]
theorem norm_12 (h : Int) (h0 : 0 ≤ h) (h1 : h ≤ 100000) : gotime_norm.f h 12 12 = some (h + 1, 0) := by
  unfold gotime_norm.f
  rw [if_neg (by omega), if_pos (by omega), if_neg (by omega)]
  have e : wrap64 (Int.tdiv 12 12) = 1 := by rw [Int.tdiv_eq_ediv_of_nonneg (by omega), w64_in _ (by omega) (by omega)]; rfl
  rw [e, w64_in (h + 1) (by omega) (by omega), w64_in (1 * 12) (by omega) (by omega), w64_in _ (by omega) (by omega)]
  rfl
end Go.Proofs.Ytlgdaegaahnkbaa.Tm
