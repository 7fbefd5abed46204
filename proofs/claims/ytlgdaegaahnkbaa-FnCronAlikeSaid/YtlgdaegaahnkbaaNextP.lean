/- The search's steps: plain laws, and the dates that they ask package time for. -/
import Derived.Test.YtlgdaegaahnkbaaTimeF
namespace Go.Proofs.Ytlgdaegaahnkbaa.Cal
theorem num_ms (n : Int) : num (yr n) (mo n) 1 = ms n := by unfold num ms; omega
theorem num_n (n d : Int) : num (yr n) (mo n) (dy n + d) = n + d := by
  have := num_eq n
  unfold num
  unfold ms at this
  omega
theorem at_ms (n : Int) : yr (ms n) = yr n ∧ mo (ms n) = mo n ∧ dy (ms n) = 1 := by
  have h := in_month n
  obtain ⟨a, b, c⟩ := same_month (n := n) (k := ms n) (by omega) (by omega)
  exact ⟨a, b, by omega⟩
theorem num_me (n : Int) (_h : mo n < 12) : num (yr n) (mo n + 1) 1 = me n := by unfold num me; omega
theorem num_me12 (n : Int) (h : mo n = 12) : num (yr n + 1) 1 1 = me n := by
  unfold num me
  rw [h, show (12 : Int) + 1 = 13 by decide, cu13, ys_succ]
  simp [cu]
  omega
/-- What holds of the search's time: no earlier second fits; once it was set back, it stands at a beginning. -/
structure Pl (s : Sch) (a0 yl y : Int) (ad : Bool) : Prop where mk ::
  (nf : NoFit s a0 y)
  (ge : a0 ≤ y)
  (st : ad = true → Set s y)
  (yb : yr (y / 86400) ≤ yl)
theorem Pl.start (s : Sch) (a0 yl : Int) (h : yr (a0 / 86400) ≤ yl) : Pl s a0 yl a0 false := ⟨NoFit.none (Int.le_refl _), Int.le_refl _, (by intro h; cases h), h⟩
theorem Pl.up {s : Sch} {a0 yl yl' y : Int} {ad : Bool} (h : Pl s a0 yl y ad) (hy : yl ≤ yl') : Pl s a0 yl' y ad := ⟨h.nf, h.ge, h.st, Int.le_trans h.yb hy⟩
theorem Pl.at {s : Sch} {a0 yl yl' y : Int} {ad : Bool} (h : Pl s a0 yl y ad) (hy : yr (y / 86400) ≤ yl') : Pl s a0 yl' y ad := ⟨h.nf, h.ge, h.st, hy⟩
theorem yr_me (n : Int) : yr (me n) ≤ yr n + 1 := by
  have hm := mo_bd n
  have := next_month n
  rcases Int.lt_or_eq_of_le hm.2 with c | c
  · have := (this.2.1 c).1; omega
  · have := (this.2.2 c).1; omega
theorem yr_next (n : Int) : yr (n + 1) ≤ yr n + 1 := by
  have h := next_day n
  rcases Int.lt_or_le (n + 1) (me n) with c | c
  · have := (h.1 c).1; omega
  · rw [h.2 (by omega)]; exact yr_me n
theorem Pl.month {s : Sch} {a0 yl y : Int} {ad : Bool} (h : Pl s a0 yl y ad) (hm : s.M (mo (y / 86400)) = false) : Pl s a0 (yl + 1) (86400 * me (y / 86400)) true := by
  have hi := in_month (y / 86400)
  have := h.ge
  refine ⟨skip_month h.nf hm, by omega, fun _ => Set.month s _, ?_⟩
  rw [show 86400 * me (y / 86400) / 86400 = me (y / 86400) by omega]
  have := yr_me (y / 86400)
  have := h.yb
  omega
/-- where a month is passed over, the time stands at its beginning -/
theorem Pl.at_month {s : Sch} {a0 yl y : Int} (h : Pl s a0 yl y true) (hm : s.M (mo (y / 86400)) = false) : y = 86400 * ms (y / 86400) := by
  rcases (h.st rfl).1 with c | c
  · rw [c] at hm; exact absurd hm (by decide)
  · exact c
theorem Pl.day {s : Sch} {a0 yl y : Int} {ad : Bool} (h : Pl s a0 yl y ad) (hm : s.M (mo (y / 86400)) = true) (hd : s.D (y / 86400) = false) : Pl s a0 (yl + 1) (86400 * (y / 86400 + 1)) true := by
  have := h.ge
  refine ⟨skip_day h.nf hd, by omega, fun _ => Set.next (x := y) (by omega) (by omega) hm (Or.inr (by omega)) (Or.inl (by omega)) (by omega), ?_⟩
  rw [show 86400 * (y / 86400 + 1) / 86400 = y / 86400 + 1 by omega]
  have := yr_next (y / 86400)
  have := h.yb
  omega
theorem Pl.at_day {s : Sch} {a0 yl y : Int} (h : Pl s a0 yl y true) (hd : s.D (y / 86400) = false) : y = 86400 * (y / 86400) := by
  rcases (h.st rfl).2.1 with c | c
  · rw [c] at hd; exact absurd hd (by decide)
  · omega
theorem Pl.hour {s : Sch} {a0 yl y : Int} {ad : Bool} (h : Pl s a0 yl y ad) (hm : s.M (mo (y / 86400)) = true) (hd : s.D (y / 86400) = true) (hh : s.H (y % 86400 / 3600) = false) : Pl s a0 (yl + 1) (3600 * (y / 3600 + 1)) true := by
  have := h.ge
  have hs := Set.next (s := s) (x := y) (y := 3600 * (y / 3600 + 1)) (by omega) (by omega) hm (Or.inl hd) (Or.inl (by omega)) (by omega)
  refine ⟨skip_hour h.nf hh, by omega, fun _ => hs, ?_⟩
  have h1 := yr_mono (show 3600 * (y / 3600 + 1) / 86400 ≤ y / 86400 + 1 by omega)
  have := yr_next (y / 86400)
  have := h.yb
  omega
theorem Pl.at_hour {s : Sch} {a0 yl y : Int} (h : Pl s a0 yl y true) (hh : s.H (y % 86400 / 3600) = false) : y = 3600 * (y / 3600) := by
  rcases (h.st rfl).2.2.1 with c | c
  · rw [c] at hh; exact absurd hh (by decide)
  · omega
theorem Pl.minute {s : Sch} {a0 yl y : Int} {ad : Bool} (h : Pl s a0 yl y ad) (hm : s.M (mo (y / 86400)) = true) (hd : s.D (y / 86400) = true) (hh : s.H (y % 86400 / 3600) = true) (hi : s.I (y % 3600 / 60) = false) : Pl s a0 (yl + 1) (60 * (y / 60 + 1)) true := by
  have := h.ge
  have hs := Set.next (s := s) (x := y) (y := 60 * (y / 60 + 1)) (by omega) (by omega) hm (Or.inl hd) (Or.inr ⟨hh, by omega⟩) (by omega)
  refine ⟨skip_minute h.nf hi, by omega, fun _ => hs, ?_⟩
  have h1 := yr_mono (show 60 * (y / 60 + 1) / 86400 ≤ y / 86400 + 1 by omega)
  have := yr_next (y / 86400)
  have := h.yb
  omega
theorem Pl.at_minute {s : Sch} {a0 yl y : Int} (h : Pl s a0 yl y true) (hi : s.I (y % 3600 / 60) = false) : y = 60 * (y / 60) := by
  rcases (h.st rfl).2.2.2 with c | c
  · rw [c] at hi; exact absurd hi (by decide)
  · omega
/-- a second that doesn't fit: within a minute the search goes on; behind its last second all begins again -/
theorem Pl.second {s : Sch} {a0 yl y : Int} {ad : Bool} (h : Pl s a0 yl y ad) (hm : s.M (mo (y / 86400)) = true) (hd : s.D (y / 86400) = true) (hh : s.H (y % 86400 / 3600) = true) (hi : s.I (y % 3600 / 60) = true) (hs : s.S (y % 60) = false) :
    Pl s a0 (yl + 1) (y + 1) true := by
  have := h.ge
  refine ⟨skip_second h.nf hs, by omega, fun _ => ?_, ?_⟩
  · by_cases c : (y + 1) % 60 = 0
    · exact Set.next (s := s) (x := y) (y := y + 1) (by omega) (by omega) hm (Or.inl hd) (Or.inr ⟨hh, by omega⟩) c
    · have e1 : (y + 1) / 86400 = y / 86400 := by omega
      have e2 : (y + 1) % 86400 / 3600 = y % 86400 / 3600 := by omega
      have e3 : (y + 1) % 3600 / 60 = y % 3600 / 60 := by omega
      refine ⟨Or.inl (by rw [e1]; exact hm), Or.inl (by rw [e1]; exact hd), Or.inl (by rw [e2]; exact hh), Or.inl (by rw [e3]; exact hi)⟩
  · have h1 := yr_mono (show (y + 1) / 86400 ≤ y / 86400 + 1 by omega)
    have := yr_next (y / 86400)
    have := h.yb
    omega
end Go.Proofs.Ytlgdaegaahnkbaa.Cal
namespace Go.Proofs.Ytlgdaegaahnkbaa.Tm
open Go Go.RowKit Cal MC
set_option linter.unusedVariables false
theorem dom_of {a0 yl y : Int} (h0 : -62135596800 ≤ a0) (h : a0 ≤ y) (hy : yr (y / 86400) ≤ yl) (hl : yl ≤ 10020) : Dom y := by
  have h1 := yr_le.1 (show yr (y / 86400) ≤ 10020 by omega)
  rw [show ys (10020 + 1) = 2940568 by decide] at h1
  exact ⟨by omega, by omega⟩
theorem addMonth_ok (n : Int) (w : World) (h1 : Dom (86400 * ms n)) (h2 : Dom (86400 * me n)) :
    Calls Try.prog 121 #[.agg #[.int .u64 0, .int .i64 (sec (86400 * ms n)), .pointer none], .int .i64 0, .int .i64 1, .int .i64 0] w (Post (86400 * me n) w) := by
  refine addMonth_any _ _ w h1 fun l W hU => ?_
  have e := at_ms n
  have hm := mo_bd n
  have n0 := h1.n0
  have n2 := h1.n2
  rw [show 86400 * ms n / 86400 = ms n by omega] at n0 n2
  have hy := yr_bd n0 n2
  rw [show 86400 * ms n / 86400 = ms n by omega, e.1, e.2.1, e.2.2, show 86400 * ms n % 86400 / 3600 = 0 by omega, show 86400 * ms n % 3600 / 60 = 0 by omega, show 86400 * ms n % 60 = 0 by omega]
  rw [e.1] at hy
  rcases Int.lt_or_eq_of_le hm.2 with c | c
  · have hz : 86400 * num (yr n) (mo n + 1) 1 + 3600 * 0 + 60 * 0 + 0 = 86400 * me n := by rw [num_me n c]; omega
    have := mk_any (yr n) (mo n + 1) 1 0 0 0 l W hU hy.1 (by omega) (by omega) (by omega) (by omega) (by omega) (by omega) (by omega) (by omega) (by omega) (by omega) (by omega) (by rw [hz]; exact h2)
    rw [hz] at this
    exact this
  · have hz : 86400 * num (yr n + 1) 1 1 = 86400 * me n := by rw [num_me12 n c]
    have := mk13_any (yr n) l W hU hy.1 (by omega) (by rw [hz]; exact h2)
    rw [hz] at this
    rw [c]
    exact this
theorem addDay_ok (n : Int) (w : World) (h1 : Dom (86400 * n)) (h2 : Dom (86400 * (n + 1))) :
    Calls Try.prog 121 #[.agg #[.int .u64 0, .int .i64 (sec (86400 * n)), .pointer none], .int .i64 0, .int .i64 0, .int .i64 1] w (Post (86400 * (n + 1)) w) := by
  refine addDay_any _ _ w h1 fun l W hU => ?_
  have hm := mo_bd n
  have hd := dy_bd n
  have hb := md_bd (yr n) (mo n)
  have n0 := h1.n0
  have n2 := h1.n2
  rw [show 86400 * n / 86400 = n by omega] at n0 n2
  have hy := yr_bd n0 n2
  rw [show 86400 * n / 86400 = n by omega, show 86400 * n % 86400 / 3600 = 0 by omega, show 86400 * n % 3600 / 60 = 0 by omega, show 86400 * n % 60 = 0 by omega]
  have hz : 86400 * num (yr n) (mo n) (dy n + 1) + 3600 * 0 + 60 * 0 + 0 = 86400 * (n + 1) := by rw [num_n]; omega
  have := mk_any (yr n) (mo n) (dy n + 1) 0 0 0 l W hU hy.1 (by omega) (by omega) (by omega) (by omega) (by omega) (by omega) (by omega) (by omega) (by omega) (by omega) (by omega) (by rw [hz]; exact h2)
  rw [hz] at this
  exact this
/-- A date on or behind a day's beginning, in its month. -/
theorem mk_ok (n d h : Int) (l : Nat) (W : World) (hU : IsU W l) (n0 : -719162 ≤ n) (n2 : n ≤ 3100000) (d0 : 1 ≤ d) (d1 : d ≤ 31) (h0 : 0 ≤ h) (h1 : h < 24) (z : Int) (hz : z = 86400 * num (yr n) (mo n) d + 3600 * h) (hx : Dom z) :
    Calls Try.prog 120 #[.int .i64 (yr n), .int .i64 (mo n), .int .i64 d, .int .i64 h, .int .i64 0, .int .i64 0, .int .i64 0, .pointer (some ⟨l, 0, none⟩)] W (Post z W) := by
  have hm := mo_bd n
  have hy := yr_bd n0 n2
  have e : 86400 * num (yr n) (mo n) d + 3600 * h + 60 * 0 + 0 = z := by omega
  have := mk_any (yr n) (mo n) d h 0 0 l W hU hy.1 (by omega) (by omega) (by omega) (by omega) (by omega) (by omega) (by omega) (by omega) (by omega) (by omega) (by omega) (by rw [e]; exact hx)
  rw [e] at this
  exact this
end Go.Proofs.Ytlgdaegaahnkbaa.Tm
