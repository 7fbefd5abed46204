/- Package time's methods over times without a location (UTC), by hand: what each answers; what they lay in memory is new. -/
import Derived.Test.YtlgdaegaahnkbaaTimeA
import Derived.Test.YtlgdaegaahnkbaaTimeP
namespace Go.Proofs.Ytlgdaegaahnkbaa.Tm
open Go Go.RowKit Cal MC
open Go.Proofs.YtlgdaegaahnkbaaW.PrintWords
set_option linter.unusedVariables false
set_option linter.unusedSimpArgs false
theorem unixSec_new (n s : Int) (w : World) (B : Obj) (h0 : 0 ≤ n) (h1 : n < 1000000000) (s0 : 0 ≤ s) (s1 : s ≤ 400000000000) :
    Calls Try.prog 84 #[.pointer (some ⟨w.heap.size, 0, none⟩)] ((w.alloc (.cells #[.int .u64 n, .int .i64 s, .pointer none] 70)).alloc B) fun e w' => e = .returned (.int .i64 (s - 62135596800)) ∧ (w.alloc (.cells #[.int .u64 n, .int .i64 s, .pointer none] 70)).alloc B = w' :=
  unixSec_any _ n s _ h0 h1 s0 s1 (cell_alloc B (by go_simp)) (cell_alloc B (by go_simp))
theorem absSec_any (n s : Int) (w : World) (h0 : 0 ≤ n) (h1 : n < 1000000000) (s0 : 0 ≤ s) (s1 : s ≤ 400000000000) :
    Calls Try.prog 73 #[.agg #[.int .u64 n, .int .i64 s, .pointer none]] w fun e w' => e = .returned (.int .u64 (s - 62135596800 + 9223372028741760000)) ∧ Below w.heap.size w w' := by
  have hU : ((w.alloc (.cells #[.int .u64 n, .int .i64 s, .pointer none] 70)).alloc U).cell? ⟨w.heap.size + 1, 0, none⟩ = some (.bool true) := by unfold U; go_simp
  have x1 : IntKind.u64.wrap (wrap64 (s - 62135596800 + 9223372028741760000)) = s - 62135596800 + 9223372028741760000 := by
    rw [IntKind.wrap_u64]; unfold wrap64; omega
  have X1 := Lib.hid x1
  clear x1
  go_enter Try.func73, Try.ntmps73
  go_wp2_with (first | (go_at_call 83; (with_reducible refine (get_nil _).mono ?_); rintro e w' ⟨rfl, rfl⟩) | (go_at_call 84; (with_reducible refine (unixSec_new n s w U h0 h1 s0 s1).mono ?_); rintro e w' ⟨rfl, rfl⟩))
  go_ret
  exact ⟨congrArg (fun z => Ending.returned (.int .u64 z)) X1.out, ((Below.refl _ _).alloc (Nat.le_refl _) _).alloc (by simp) _⟩
/-- Seconds from year 1 on, of a second from 1970 on. -/
def sec (x : Int) : Int := x + 62135596800
structure Dom (x : Int) : Prop where mk ::
  (lo : -62135596800 ≤ x)
  (hi : x ≤ 260000000000)
theorem Dom.s0 {x : Int} (h : Dom x) : 0 ≤ sec x := by have := h.lo; unfold sec; omega
theorem Dom.s1 {x : Int} (h : Dom x) : sec x ≤ 400000000000 := by have := h.hi; unfold sec; omega
theorem Dom.n0 {x : Int} (h : Dom x) : -719162 ≤ x / 86400 := by have := h.lo; omega
theorem Dom.n1 {x : Int} (h : Dom x) : x / 86400 ≤ 4000000 := by have := h.hi; omega
theorem Dom.n2 {x : Int} (h : Dom x) : x / 86400 ≤ 3100000 := by have := h.hi; omega
def bw (w w' : World) : Prop := Below w.heap.size w w'
theorem abs_x (n x : Int) (w : World) (h0 : 0 ≤ n) (h1 : n < 1000000000) (hx : Dom x) :
    Calls Try.prog 73 #[.agg #[.int .u64 n, .int .i64 (sec x), .pointer none]] w fun e w' => e = .returned (.int .u64 (x + 9223372028741760000)) ∧ Below w.heap.size w w' := by
  have h := absSec_any n (sec x) w h0 h1 hx.s0 hx.s1
  rw [show sec x - 62135596800 + 9223372028741760000 = x + 9223372028741760000 by unfold sec; omega] at h
  exact h
theorem days_c (x : Int) (w : World) (hx : Dom x) :
    Calls Try.prog 74 #[.int .u64 (x + 9223372028741760000)] w fun e w' => e = .returned (.int .u64 (x / 86400 + 106751991073400)) ∧ Below w.heap.size w w' :=
  (gotime_absSeconds_days.calls _ _ w (days_f x hx.lo (by have := hx.hi; omega))).mono fun _ _ ⟨he, hd⟩ => ⟨he, hd.below⟩
theorem split_c (n : Int) (w : World) (n0 : -719162 ≤ n) (n1 : n ≤ 4000000) :
    Calls Try.prog 86 #[.int .u64 (n + 106751991073400)] w fun e w' => e = .returned (.tuple #[.int .u64 (cen (n + 719468) + 2922770224), .int .i64 (cyr (n + 719468)), .int .i64 (ayd (n + 719468))]) ∧ Below w.heap.size w w' :=
  (gotime_absDays_split.calls _ _ _ _ w (split_f n n0 n1)).mono fun _ _ ⟨he, hd⟩ => ⟨he, hd.below⟩
theorem ayd_bd (n : Int) : 0 ≤ ayd (n + 719468) ∧ ayd (n + 719468) ≤ 365 := by have := split_year (n + 719468); omega
theorem cyr_bd (n : Int) : 0 ≤ cyr (n + 719468) ∧ cyr (n + 719468) ≤ 99 := by have := split_year (n + 719468); omega
theorem amo_bd (n : Int) : 3 ≤ amo (n + 719468) ∧ amo (n + 719468) ≤ 14 := by have := split_month (n + 719468); omega
theorem ysplit_g (n : Int) : gotime_absYday_split.f (ayd (n + 719468)) = some (amo (n + 719468), dy n) := by rw [month_f _ (ayd_bd n).1 (ayd_bd n).2]; rfl
theorem janFeb_g (n : Int) : gotime_absYday_janFeb.f (ayd (n + 719468)) = some (jf (n + 719468)) := by rw [janFeb_f]; rfl
theorem year_g (n : Int) (n0 : -719162 ≤ n) (n1 : n ≤ 4000000) : gotime_absCentury_year.f (cen (n + 719468) + 2922770224) (cyr (n + 719468)) (jf (n + 719468)) = some (yr n) :=
  year_f _ _ _ (cen_bd n n0 n1).1 (cen_bd n n0 n1).2 (cyr_bd n).1 (cyr_bd n).2 (jf_bd _).1 (jf_bd _).2
theorem mon_g (n : Int) : gotime_absMonth_month.f (amo (n + 719468)) (jf (n + 719468)) = some (mo n) := mon_f _ _ (amo_bd n).1 (amo_bd n).2 (jf_bd _).1 (jf_bd _).2
theorem ysplit_c (n : Int) (w : World)  :
    Calls Try.prog 87 #[.int .i64 (ayd (n + 719468))] w fun e w' => e = .returned (.tuple #[.int .i64 (amo (n + 719468)), .int .i64 (dy n)]) ∧ Below w.heap.size w w' :=
  (gotime_absYday_split.calls _ _ _ w (ysplit_g n)).mono fun _ _ ⟨he, hd⟩ => ⟨he, hd.below⟩
theorem janFeb_c (n : Int) (w : World)  :
    Calls Try.prog 88 #[.int .i64 (ayd (n + 719468))] w fun e w' => e = .returned (.int .i64 (jf (n + 719468))) ∧ Below w.heap.size w w' :=
  (gotime_absYday_janFeb.calls _ _ w (janFeb_g n)).mono fun _ _ ⟨he, hd⟩ => ⟨he, hd.below⟩
theorem year_c (n : Int) (w : World) (n0 : -719162 ≤ n) (n1 : n ≤ 4000000) :
    Calls Try.prog 89 #[.int .u64 (cen (n + 719468) + 2922770224), .int .i64 (cyr (n + 719468)), .int .i64 (jf (n + 719468))] w fun e w' => e = .returned (.int .i64 (yr n)) ∧ Below w.heap.size w w' :=
  (gotime_absCentury_year.calls _ _ _ _ w (year_g n n0 n1)).mono fun _ _ ⟨he, hd⟩ => ⟨he, hd.below⟩
theorem mon_c (n : Int) (w : World)  :
    Calls Try.prog 90 #[.int .i64 (amo (n + 719468)), .int .i64 (jf (n + 719468))] w fun e w' => e = .returned (.int .i64 (mo n)) ∧ Below w.heap.size w w' :=
  (gotime_absMonth_month.calls _ _ _ w (mon_g n)).mono fun _ _ ⟨he, hd⟩ => ⟨he, hd.below⟩
theorem date_c (n : Int) (w : World) (n0 : -719162 ≤ n) (n1 : n ≤ 4000000) :
    Calls Try.prog 75 #[.int .u64 (n + 106751991073400)] w fun e w' => e = .returned (.tuple #[.int .i64 (yr n), .int .i64 (mo n), .int .i64 (dy n)]) ∧ Below w.heap.size w w' :=
  (gotime_absDays_date.calls _ _ _ _ w (date_f n n0 n1)).mono fun _ _ ⟨he, hd⟩ => ⟨he, hd.below⟩
theorem weekday_c (n : Int) (w : World) (n0 : -719162 ≤ n) (n1 : n ≤ 4000000) :
    Calls Try.prog 78 #[.int .u64 (n + 106751991073400)] w fun e w' => e = .returned (.int .i64 (wd n)) ∧ Below w.heap.size w w' :=
  (gotime_absDays_weekday.calls _ _ w (weekday_f n n0 n1)).mono fun _ _ ⟨he, hd⟩ => ⟨he, hd.below⟩
theorem clock_c (x : Int) (w : World) (hx : Dom x) :
    Calls Try.prog 76 #[.int .u64 (x + 9223372028741760000)] w fun e w' => e = .returned (.tuple #[.int .i64 (x % 86400 / 3600), .int .i64 (x % 3600 / 60), .int .i64 (x % 60)]) ∧ Below w.heap.size w w' :=
  (gotime_absSeconds_clock.calls _ _ _ _ w (clock_f x hx.lo (by have := hx.hi; omega))).mono fun _ _ ⟨he, hd⟩ => ⟨he, hd.below⟩
theorem norm_c (h : Int) (l : Int) (b : Int) (w : World) (l0 : 0 ≤ l) (l1 : l < b) :
    Calls Try.prog 127 #[.int .i64 h, .int .i64 l, .int .i64 b] w fun e w' => e = .returned (.tuple #[.int .i64 h, .int .i64 l]) ∧ Below w.heap.size w w' :=
  (gotime_norm.calls _ _ _ _ _ w (norm_in h l b l0 l1)).mono fun _ _ ⟨he, hd⟩ => ⟨he, hd.below⟩
theorem norm12_c (h : Int) (w : World) (l0 : 0 ≤ h) (l1 : h ≤ 100000) :
    Calls Try.prog 127 #[.int .i64 h, .int .i64 12, .int .i64 12] w fun e w' => e = .returned (.tuple #[.int .i64 (h + 1), .int .i64 0]) ∧ Below w.heap.size w w' :=
  (gotime_norm.calls _ _ _ _ _ w (norm_12 h l0 l1)).mono fun _ _ ⟨he, hd⟩ => ⟨he, hd.below⟩
theorem abs_c (y : Int) (m : Int) (d : Int) (w : World) (y0 : 1 ≤ y) (y1 : y ≤ 12000) (m0 : 1 ≤ m) (m1 : m ≤ 12) (d0 : 1 ≤ d) (d1 : d ≤ 1000) :
    Calls Try.prog 128 #[.int .i64 y, .int .i64 m, .int .i64 d] w fun e w' => e = .returned (.int .u64 (num y m d + 106751991073400)) ∧ Below w.heap.size w w' :=
  (gotime_dateToAbsDays.calls _ _ _ _ w (abs_f y m d y0 y1 m0 m1 d0 d1)).mono fun _ _ ⟨he, hd⟩ => ⟨he, hd.below⟩
theorem year_any (n x : Int) (w : World) (h0 : 0 ≤ n) (h1 : n < 1000000000) (hx : Dom x) :
    Calls Try.prog 118 #[.agg #[.int .u64 n, .int .i64 (sec x), .pointer none]] w fun e w' => e = .returned (.int .i64 (yr (x / 86400))) ∧ Below w.heap.size w w' := by
  have HB0 := Aside0.mk ((Below.refl w.heap.size w).alloc (Nat.le_refl _) (.cells #[.int .u64 n, .int .i64 (sec x), .pointer none] 70))
  have HX := Aside0.mk hx
  go_enter Try.func118, Try.ntmps118
  go_wp2_with (first | (go_at_call 73; (with_reducible refine (abs_x n x _ h0 h1 HX.out).mono ?_); rintro e w1 ⟨rfl, hb⟩; have HB1 := Aside0.mk (HB0.out.trans (hb.mono HB0.out.size)); clear hb) | (go_at_call 74; (with_reducible refine (days_c x _ HX.out).mono ?_); rintro e w2 ⟨rfl, hb⟩; have HB2 := Aside0.mk (HB1.out.trans (hb.mono HB1.out.size)); clear hb) | (go_at_call 86; (with_reducible refine (split_c (x / 86400) _ HX.out.n0 HX.out.n1).mono ?_); rintro e w3 ⟨rfl, hb⟩; have HB3 := Aside0.mk (HB2.out.trans (hb.mono HB2.out.size)); clear hb) | (go_at_call 88; (with_reducible refine (janFeb_c (x / 86400) _).mono ?_); rintro e w4 ⟨rfl, hb⟩; have HB4 := Aside0.mk (HB3.out.trans (hb.mono HB3.out.size)); clear hb) | (go_at_call 89; (with_reducible refine (year_c (x / 86400) _ HX.out.n0 HX.out.n1).mono ?_); rintro e w5 ⟨rfl, hb⟩; have HB5 := Aside0.mk (HB4.out.trans (hb.mono HB4.out.size)); clear hb))
  go_ret
  exact ⟨rfl, HB5.out⟩
theorem month_any (n x : Int) (w : World) (h0 : 0 ≤ n) (h1 : n < 1000000000) (hx : Dom x) :
    Calls Try.prog 119 #[.agg #[.int .u64 n, .int .i64 (sec x), .pointer none]] w fun e w' => e = .returned (.int .i64 (mo (x / 86400))) ∧ Below w.heap.size w w' := by
  have HB0 := Aside0.mk ((Below.refl w.heap.size w).alloc (Nat.le_refl _) (.cells #[.int .u64 n, .int .i64 (sec x), .pointer none] 70))
  have HX := Aside0.mk hx
  go_enter Try.func119, Try.ntmps119
  go_wp2_with (first | (go_at_call 73; (with_reducible refine (abs_x n x _ h0 h1 HX.out).mono ?_); rintro e w1 ⟨rfl, hb⟩; have HB1 := Aside0.mk (HB0.out.trans (hb.mono HB0.out.size)); clear hb) | (go_at_call 74; (with_reducible refine (days_c x _ HX.out).mono ?_); rintro e w2 ⟨rfl, hb⟩; have HB2 := Aside0.mk (HB1.out.trans (hb.mono HB1.out.size)); clear hb) | (go_at_call 86; (with_reducible refine (split_c (x / 86400) _ HX.out.n0 HX.out.n1).mono ?_); rintro e w3 ⟨rfl, hb⟩; have HB3 := Aside0.mk (HB2.out.trans (hb.mono HB2.out.size)); clear hb) | (go_at_call 87; (with_reducible refine (ysplit_c (x / 86400) _).mono ?_); rintro e w4 ⟨rfl, hb⟩; have HB4 := Aside0.mk (HB3.out.trans (hb.mono HB3.out.size)); clear hb) | (go_at_call 88; (with_reducible refine (janFeb_c (x / 86400) _).mono ?_); rintro e w5 ⟨rfl, hb⟩; have HB5 := Aside0.mk (HB4.out.trans (hb.mono HB4.out.size)); clear hb) | (go_at_call 90; (with_reducible refine (mon_c (x / 86400) _).mono ?_); rintro e w6 ⟨rfl, hb⟩; have HB6 := Aside0.mk (HB5.out.trans (hb.mono HB5.out.size)); clear hb))
  go_ret
  exact ⟨rfl, HB6.out⟩
theorem day_any (n x : Int) (w : World) (h0 : 0 ≤ n) (h1 : n < 1000000000) (hx : Dom x) :
    Calls Try.prog 111 #[.agg #[.int .u64 n, .int .i64 (sec x), .pointer none]] w fun e w' => e = .returned (.int .i64 (dy (x / 86400))) ∧ Below w.heap.size w w' := by
  have HB0 := Aside0.mk ((Below.refl w.heap.size w).alloc (Nat.le_refl _) (.cells #[.int .u64 n, .int .i64 (sec x), .pointer none] 70))
  have HX := Aside0.mk hx
  go_enter Try.func111, Try.ntmps111
  go_wp2_with (first | (go_at_call 73; (with_reducible refine (abs_x n x _ h0 h1 HX.out).mono ?_); rintro e w1 ⟨rfl, hb⟩; have HB1 := Aside0.mk (HB0.out.trans (hb.mono HB0.out.size)); clear hb) | (go_at_call 74; (with_reducible refine (days_c x _ HX.out).mono ?_); rintro e w2 ⟨rfl, hb⟩; have HB2 := Aside0.mk (HB1.out.trans (hb.mono HB1.out.size)); clear hb) | (go_at_call 86; (with_reducible refine (split_c (x / 86400) _ HX.out.n0 HX.out.n1).mono ?_); rintro e w3 ⟨rfl, hb⟩; have HB3 := Aside0.mk (HB2.out.trans (hb.mono HB2.out.size)); clear hb) | (go_at_call 87; (with_reducible refine (ysplit_c (x / 86400) _).mono ?_); rintro e w4 ⟨rfl, hb⟩; have HB4 := Aside0.mk (HB3.out.trans (hb.mono HB3.out.size)); clear hb))
  go_ret
  exact ⟨rfl, HB4.out⟩
theorem weekday_any (n x : Int) (w : World) (h0 : 0 ≤ n) (h1 : n < 1000000000) (hx : Dom x) :
    Calls Try.prog 56 #[.agg #[.int .u64 n, .int .i64 (sec x), .pointer none]] w fun e w' => e = .returned (.int .i64 (wd (x / 86400))) ∧ Below w.heap.size w w' := by
  have HB0 := Aside0.mk ((Below.refl w.heap.size w).alloc (Nat.le_refl _) (.cells #[.int .u64 n, .int .i64 (sec x), .pointer none] 70))
  have HX := Aside0.mk hx
  go_enter Try.func56, Try.ntmps56
  go_wp2_with (first | (go_at_call 73; (with_reducible refine (abs_x n x _ h0 h1 HX.out).mono ?_); rintro e w1 ⟨rfl, hb⟩; have HB1 := Aside0.mk (HB0.out.trans (hb.mono HB0.out.size)); clear hb) | (go_at_call 74; (with_reducible refine (days_c x _ HX.out).mono ?_); rintro e w2 ⟨rfl, hb⟩; have HB2 := Aside0.mk (HB1.out.trans (hb.mono HB1.out.size)); clear hb) | (go_at_call 78; (with_reducible refine (weekday_c (x / 86400) _ HX.out.n0 HX.out.n1).mono ?_); rintro e w3 ⟨rfl, hb⟩; have HB3 := Aside0.mk (HB2.out.trans (hb.mono HB2.out.size)); clear hb))
  go_ret
  exact ⟨rfl, HB3.out⟩
theorem date_any (n x : Int) (w : World) (h0 : 0 ≤ n) (h1 : n < 1000000000) (hx : Dom x) :
    Calls Try.prog 53 #[.agg #[.int .u64 n, .int .i64 (sec x), .pointer none]] w fun e w' => e = .returned (.tuple #[.int .i64 (yr (x / 86400)), .int .i64 (mo (x / 86400)), .int .i64 (dy (x / 86400))]) ∧ Below w.heap.size w w' := by
  have HB0 := Aside0.mk ((Below.refl w.heap.size w).alloc (Nat.le_refl _) (.cells #[.int .u64 n, .int .i64 (sec x), .pointer none] 70))
  have HX := Aside0.mk hx
  go_enter Try.func53, Try.ntmps53
  go_wp2_with (first | (go_at_call 73; (with_reducible refine (abs_x n x _ h0 h1 HX.out).mono ?_); rintro e w1 ⟨rfl, hb⟩; have HB1 := Aside0.mk (HB0.out.trans (hb.mono HB0.out.size)); clear hb) | (go_at_call 74; (with_reducible refine (days_c x _ HX.out).mono ?_); rintro e w2 ⟨rfl, hb⟩; have HB2 := Aside0.mk (HB1.out.trans (hb.mono HB1.out.size)); clear hb) | (go_at_call 75; (with_reducible refine (date_c (x / 86400) _ HX.out.n0 HX.out.n1).mono ?_); rintro e w3 ⟨rfl, hb⟩; have HB3 := Aside0.mk (HB2.out.trans (hb.mono HB2.out.size)); clear hb))
  go_ret3
  exact ⟨rfl, HB3.out⟩
theorem clock_any (n x : Int) (w : World) (h0 : 0 ≤ n) (h1 : n < 1000000000) (hx : Dom x) :
    Calls Try.prog 54 #[.agg #[.int .u64 n, .int .i64 (sec x), .pointer none]] w fun e w' => e = .returned (.tuple #[.int .i64 (x % 86400 / 3600), .int .i64 (x % 3600 / 60), .int .i64 (x % 60)]) ∧ Below w.heap.size w w' := by
  have HB0 := Aside0.mk ((Below.refl w.heap.size w).alloc (Nat.le_refl _) (.cells #[.int .u64 n, .int .i64 (sec x), .pointer none] 70))
  have HX := Aside0.mk hx
  go_enter Try.func54, Try.ntmps54
  go_wp2_with (first | (go_at_call 73; (with_reducible refine (abs_x n x _ h0 h1 HX.out).mono ?_); rintro e w1 ⟨rfl, hb⟩; have HB1 := Aside0.mk (HB0.out.trans (hb.mono HB0.out.size)); clear hb) | (go_at_call 76; (with_reducible refine (clock_c x _ HX.out).mono ?_); rintro e w2 ⟨rfl, hb⟩; have HB2 := Aside0.mk (HB1.out.trans (hb.mono HB1.out.size)); clear hb))
  go_ret3
  exact ⟨rfl, HB2.out⟩
theorem hour_any (n x : Int) (w : World) (h0 : 0 ≤ n) (h1 : n < 1000000000) (hx : Dom x) :
    Calls Try.prog 123 #[.agg #[.int .u64 n, .int .i64 (sec x), .pointer none]] w fun e w' => e = .returned (.int .i64 (x % 86400 / 3600)) ∧ Below w.heap.size w w' := by
  have HB0 := Aside0.mk ((Below.refl w.heap.size w).alloc (Nat.le_refl _) (.cells #[.int .u64 n, .int .i64 (sec x), .pointer none] 70))
  have HX := Aside0.mk hx
  have b0 : 0 ≤ x + 9223372028741760000 := by have := hx.lo; omega
  have b1 : x + 9223372028741760000 < 18446744073709551616 := by have := hx.hi; omega
  go_enter Try.func123, Try.ntmps123
  go_wp2_with (first | (go_at_call 73; (with_reducible refine (abs_x n x _ h0 h1 HX.out).mono ?_); rintro e w1 ⟨rfl, hb⟩; have HB1 := Aside0.mk (HB0.out.trans (hb.mono HB0.out.size)); clear hb))
  go_ret
  exact ⟨ret_int (by omega), HB1.out⟩
theorem minute_any (n x : Int) (w : World) (h0 : 0 ≤ n) (h1 : n < 1000000000) (hx : Dom x) :
    Calls Try.prog 124 #[.agg #[.int .u64 n, .int .i64 (sec x), .pointer none]] w fun e w' => e = .returned (.int .i64 (x % 3600 / 60)) ∧ Below w.heap.size w w' := by
  have HB0 := Aside0.mk ((Below.refl w.heap.size w).alloc (Nat.le_refl _) (.cells #[.int .u64 n, .int .i64 (sec x), .pointer none] 70))
  have HX := Aside0.mk hx
  have b0 : 0 ≤ x + 9223372028741760000 := by have := hx.lo; omega
  have b1 : x + 9223372028741760000 < 18446744073709551616 := by have := hx.hi; omega
  go_enter Try.func124, Try.ntmps124
  go_wp2_with (first | (go_at_call 73; (with_reducible refine (abs_x n x _ h0 h1 HX.out).mono ?_); rintro e w1 ⟨rfl, hb⟩; have HB1 := Aside0.mk (HB0.out.trans (hb.mono HB0.out.size)); clear hb))
  go_ret
  exact ⟨ret_int (by omega), HB1.out⟩
theorem second_any (n x : Int) (w : World) (h0 : 0 ≤ n) (h1 : n < 1000000000) (hx : Dom x) :
    Calls Try.prog 126 #[.agg #[.int .u64 n, .int .i64 (sec x), .pointer none]] w fun e w' => e = .returned (.int .i64 (x % 60)) ∧ Below w.heap.size w w' := by
  have HB0 := Aside0.mk ((Below.refl w.heap.size w).alloc (Nat.le_refl _) (.cells #[.int .u64 n, .int .i64 (sec x), .pointer none] 70))
  have HX := Aside0.mk hx
  have b0 : 0 ≤ x + 9223372028741760000 := by have := hx.lo; omega
  have b1 : x + 9223372028741760000 < 18446744073709551616 := by have := hx.hi; omega
  go_enter Try.func126, Try.ntmps126
  go_wp2_with (first | (go_at_call 73; (with_reducible refine (abs_x n x _ h0 h1 HX.out).mono ?_); rintro e w1 ⟨rfl, hb⟩; have HB1 := Aside0.mk (HB0.out.trans (hb.mono HB0.out.size)); clear hb))
  go_ret
  exact ⟨ret_int (by omega), HB1.out⟩
end Go.Proofs.Ytlgdaegaahnkbaa.Tm
