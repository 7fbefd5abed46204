/- Two schedules alike or apart: plain laws. -/
import Derived.Test.YtlgdaegaahnkbaaAliD
namespace Go.Proofs.Ytlgdaegaahnkbaa.Tm
open Go Go.RowKit Cal MC
set_option linter.unusedVariables false
set_option linter.unusedSimpArgs false
theorem fB_iff' {b : SB} {x : Int} : fB b x = true ↔ fit b.sch x := fitB_iff b x
/-- The times of a day are alike. -/
def TLike (a b : SB) : Prop := ∀ (k : Nat) (v : Int), k < 3 → 0 ≤ v → v ≤ highK k → bitOf (fldN a k) v = bitOf (fldN b k) v
theorem tB_like {a b : SB} (h : TLike a b) (r : Int) (r0 : 0 ≤ r) (r1 : r < 86400) : tB a r = tB b r := by
  unfold tB
  have h0 := h 0 (r % 60) (by decide) (by omega) (by show r % 60 ≤ 59; omega)
  have h1 := h 1 (r % 3600 / 60) (by decide) (by omega) (by show r % 3600 / 60 ≤ 59; omega)
  have h2 := h 2 (r / 3600) (by decide) (by omega) (by show r / 3600 ≤ 23; omega)
  change bitOf a.s (r % 60) = bitOf b.s (r % 60) at h0
  change bitOf a.i (r % 3600 / 60) = bitOf b.i (r % 3600 / 60) at h1
  change bitOf a.h (r / 3600) = bitOf b.h (r / 3600) at h2
  rw [h0, h1, h2]
/-- The days are alike. -/
def DLike (a b : SB) : Prop := ∀ m d v : Int, 1 ≤ m → m ≤ 12 → 1 ≤ d → d ≤ md 2000 m → 0 ≤ v → v ≤ 6 → mdOk a b m d v = false
theorem dB_like {a b : SB} (h : DLike a b) (n : Int) : dB a n = dB b n := by
  have hh := h (mo n) (dy n) (wd n) (mo_bd n).1 (mo_bd n).2 (dy_bd n).1 (Int.le_trans (dy_bd n).2 (md_2000 _ _)) (by unfold wd; omega) (by unfold wd; omega)
  unfold mdOk at hh
  rw [dB_dO, dB_dO]
  simpa using hh
theorem fB_split (b : SB) (x : Int) : fB b x = (dB b (x / 86400) && tB b (x % 86400)) := by
  have := fB_day b (x / 86400) (x % 86400) (by omega) (by omega)
  rwa [show 86400 * (x / 86400) + x % 86400 = x by omega] at this
theorem nx_like {a b : SB} (h : ∀ x, fB a x = fB b x) (x : Int) : NX a x = NX b x := by
  refine (nx_eq (IsNext.congr (fun y => ?_) (nx_is b x)))
  rw [← fB_iff', ← fB_iff', h y]
/-- All seconds are alike. -/
theorem like_all {a b : SB} (hd : DLike a b) (ht : TLike a b) (x : Int) : fB a x = fB b x := by
  rw [fB_split, fB_split, dB_like hd, tB_like ht _ (by omega) (by omega)]
/-- A schedule that is never activated has no second. -/
theorem fB_never {b : SB} (h : neverB b = true) (x : Int) : fB b x = false := by
  cases hq : fB b x with
  | false => rfl
  | true => exact absurd (fB_iff'.1 hq) (never_none h x)
theorem fB_noday {b : SB} (h : ∀ n, dB b n = false) (x : Int) : fB b x = false := by
  rw [fB_split, h, Bool.false_and]
/-- The next activation after the second ahead of one: this one just if it fits. -/
theorem nx_at (b : SB) (x : Int) : (nF b (x - 1) = true ∧ nS b (x - 1) = x) ↔ fB b x = true := by
  have hn := nx_is b (x - 1)
  constructor
  · rintro ⟨h1, h2⟩
    rw [nF_some h1, h2] at hn
    exact fB_iff'.2 hn.2.1
  · intro hf
    have hnx : NX b (x - 1) = some x := nx_eq ⟨by omega, fB_iff'.1 hf, by unfold lastY; rw [show x - 1 + 1 = x by omega]; omega, fun y h1 h2 => by omega⟩
    unfold nF nS
    rw [hnx]
    exact ⟨rfl, rfl⟩
end Go.Proofs.Ytlgdaegaahnkbaa.Tm
