/- The reference's search on clocks without changes: plain laws and small contracts. -/
import Derived.Test.YtlgdaegaahnkbaaBlk
namespace Go.Proofs.Ytlgdaegaahnkbaa.Tm
open Go Go.RowKit Cal MC
open Go.Proofs.YtlgdaegaahnkbaaW.PrintWords
set_option linter.unusedVariables false
set_option linter.unusedSimpArgs false
theorem specWeekday_c (n : Int) (w : World) (h0 : -719162 ≤ n) (h1 : n ≤ 3100000) : Calls Try.prog 44 #[.int .i64 n] w fun e w' => e = .returned (.int .i64 (wd n)) ∧ Below w.heap.size w w' :=
  (spec_CronWeekday.calls n _ w (by
    unfold spec_CronWeekday.f spec_floorMod.f
    rw [w64_in (n + 4) (by omega) (by omega), floorDiv_7 _ (by omega) (by omega)]
    simp only [Option.bind_some]
    rw [w64_in (7 * ((n + 4) / 7)) (by omega) (by omega), w64_in _ (by omega) (by omega)]
    congr 1
    show _ = (n + 4) % 7
    omega)).mono fun _ _ ⟨he, hd⟩ => ⟨he, hd.below⟩
theorem dateOf_c (n : Int) (w : World) (h0 : -719162 ≤ n) (h1 : n ≤ 3100000) : Calls Try.prog 42 #[.int .i64 n] w fun e w' => e = .returned (.agg #[.int .i64 (yr n), .int .i64 (mo n), .int .i64 (dy n)]) ∧ Below w.heap.size w w' := by
  obtain ⟨k, hk⟩ := dateOf_f n h0 h1
  exact spec_CronDateOf.calls k n _ _ _ w hk
theorem tomorrow_c (n : Int) (w : World) (h0 : -719162 ≤ n) (h1 : n ≤ 3100000) :
    Calls Try.prog 43 #[.agg #[.int .i64 (yr n), .int .i64 (mo n), .int .i64 (dy n)]] w fun e w' => e = .returned (.agg #[.int .i64 (yr (n + 1)), .int .i64 (mo (n + 1)), .int .i64 (dy (n + 1))]) ∧ Below w.heap.size w w' :=
  spec_CronTomorrow.calls _ _ _ _ _ _ w (tomorrow_f n h0 h1)
/-- What the search answers: v, and whether there is one. -/
def IsLocal (s : Sch) (a til last v : Int) (f : Bool) : Prop :=
  (f = true → a ≤ v ∧ v < til ∧ fit s v ∧ yr (v / 86400) ≤ last ∧ NoFit s a v) ∧ (f = false → ∀ y, a ≤ y → y < til → yr (y / 86400) ≤ last → ¬ fit s y)
theorem isLocal_none {s : Sch} {a til last v : Int} (h : ∀ y, a ≤ y → y < til → yr (y / 86400) ≤ last → ¬ fit s y) : IsLocal s a til last v false := ⟨fun e => absurd e (by simp), fun _ => h⟩
/-- The day's second found. -/
theorem isLocal_some {s : Sch} {a til last x : Int} (h : IsNext s a last (some x)) : IsLocal s a til last x (decide (x < til)) := by
  refine ⟨fun e => ⟨h.1, of_decide_eq_true e, h.2.1, h.2.2.1, h.2.2.2⟩, fun e y h1 h2 h3 => h.2.2.2 y h1 ?_⟩
  have := of_decide_eq_false e
  omega
/-- The end: past the years. -/
theorem isLocal_years {s : Sch} {a til last n r v : Int} (h : NoFit s a (86400 * n + r)) (hr : 0 ≤ r) (hy : ¬ yr n ≤ last) : IsLocal s a til last v false :=
  isLocal_none fun y h1 h2 h3 hf => by
    rcases Int.lt_or_le y (86400 * n + r) with c | c
    · exact h y h1 c hf
    · have := yr_mono (show n ≤ y / 86400 by omega)
      omega
/-- The end: at the change. -/
theorem isLocal_until {s : Sch} {a til last n r v : Int} (h : NoFit s a (86400 * n + r)) (hr : 0 ≤ r) (hy : ¬ 86400 * n < til) : IsLocal s a til last v false :=
  isLocal_none fun y h1 h2 h3 hf => h y h1 (by omega) hf
theorem emptyB_at {g : Nat → Bool} (h : emptyB g = true) (i : Nat) (hi : i < 63) : g (1 + i) = false := by
  unfold emptyB at h
  rw [List.all_eq_true] at h
  have := h i (by simpa using hi)
  simpa using this
theorem never_fld {b : SB} {k : Nat} (hk : k < 6) (h : emptyB (setG b k) = true) (v : Int) (h0 : lowK k ≤ v) (h1 : v ≤ highK k) : bitOf (fldN b k) v = false := by
  have hl := low_bd (k : Int)
  have hh := high_bd (k : Int)
  have := emptyB_at h v.toNat (by omega)
  unfold setG at this
  rw [← fcell_in b k v hk h0 h1]
  rw [show 64 * k + 1 + v.toNat = 64 * k + (1 + v.toNat) by omega]
  exact this
theorem never_none {b : SB} (h : neverB b = true) (x : Int) : ¬ fit b.sch x := by
  have hn : IsNext b.sch x (yr (x / 86400)) none := by
    refine IsNext.never ?_
    unfold neverB at h
    rcases Bool.or_eq_true_iff.1 h with h | h
    · exact Or.inl fun v h0 h1 => never_fld (k := 2) (by decide) h v h0 h1
    · rcases Bool.or_eq_true_iff.1 h with h | h
      · exact Or.inr (Or.inl fun v h0 h1 => never_fld (k := 1) (by decide) h v h0 h1)
      · exact Or.inr (Or.inr fun v h0 h1 => never_fld (k := 0) (by decide) h v h0 h1)
  exact hn x (Int.le_refl _) (Int.le_refl _)
theorem dom_day {last n : Int} (hl : last ≤ 10300) (h : yr n ≤ last) : n ≤ 3090000 := by
  have h1 := (yr_le (n := n) (y := 10300)).1 (by omega)
  have h2 : ys (10300 + 1) ≤ 3090000 := by decide
  omega
end Go.Proofs.Ytlgdaegaahnkbaa.Tm
