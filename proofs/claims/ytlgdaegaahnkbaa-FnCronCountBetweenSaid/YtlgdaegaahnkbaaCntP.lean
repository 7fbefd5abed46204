/- As many activations as the count says: plain laws. -/
import Derived.Test.YtlgdaegaahnkbaaSpecT
namespace Go.Proofs.Ytlgdaegaahnkbaa.Tm
open Go Go.RowKit Cal MC
set_option linter.unusedVariables false
set_option linter.unusedSimpArgs false
/-- k activations up to y, then none, or one behind y. -/
def Ch (b : SB) (y : Int) : Nat → Int → List Int → Prop
  | 0, x, [] => NX b x = none
  | 0, x, [z] => x < z ∧ y < z
  | 0, _, _ :: _ :: _ => False
  | k + 1, x, z :: r => x < z ∧ z ≤ y ∧ Ch b y k z r
  | _ + 1, _, [] => False
theorem fB_iff (b : SB) (x : Int) : fB b x = true ↔ fit b.sch x := fitB_iff b x
theorem lastY_mono {x z : Int} (h : x ≤ z) : lastY x ≤ lastY z := by
  have := yr_mono (show (x + 1) / 86400 ≤ (z + 1) / 86400 by omega)
  unfold lastY
  omega
theorem cR_zero_of {p : Int → Bool} {a : Int} {n : Nat} (h : cR p a n = 0) (k : Nat) (hk : k < n) : p (a + k) = false := by
  have e := cR_add p a k (n - k)
  rw [show k + (n - k) = n by omega, h] at e
  have h1 := cR_bd p a k
  have h2 := cR_bd p (a + k) (n - k)
  obtain ⟨m, hm⟩ : ∃ m, n - k = 1 + m := ⟨n - k - 1, by omega⟩
  have e2 := cR_add p (a + k) 1 m
  rw [← hm] at e2
  have h3 := cR_bd p (a + k + (1 : Nat)) m
  have e3 : cR p (a + k) 1 = 0 := by
    have := cR_bd p (a + k) 1
    omega
  have e4 : cR p (a + k) 1 = cR p (a + k) 0 + (if p (a + k + (0 : Nat)) then 1 else 0) := rfl
  rw [e3, show a + (k : Int) + ((0 : Nat) : Int) = a + k by omega] at e4
  cases hq : p (a + k) with
  | false => rfl
  | true => rw [hq] at e4; simp [cR] at e4
theorem ch_of (b : SB) (y : Int) (hy : y ≤ 253402300799) : ∀ (k : Nat) (x : Int), x ≤ y → yr (y / 86400) ≤ lastY x → cR (fB b) (x + 1) (y - x).toNat = k → Ch b y k x (nexts b (k + 1) x) ∧ Asked b (k + 1) x := by
  intro k
  induction k with
  | zero =>
    intro x hx hl hc
    have hnone : ∀ z, x < z → z ≤ y → ¬ fit b.sch z := fun z h1 h2 hf => by
      have := cR_zero_of hc (z - x - 1).toNat (by omega)
      rw [show x + 1 + (((z - x - 1).toNat : Nat) : Int) = z by omega] at this
      rw [(fB_iff b z).2 hf] at this
      cases this
    refine ⟨?_, by omega, fun _ _ => trivial⟩
    cases hn : NX b x with
    | none => rw [nexts_none hn]; exact hn
    | some z =>
      rw [nexts_some hn]
      have h := nx_is b x
      rw [hn] at h
      refine ⟨by have := h.1; omega, ?_⟩
      rcases Int.lt_or_le y z with c | c
      · exact c
      · exact absurd h.2.1 (hnone z (by have := h.1; omega) c)
  | succ k ih =>
    intro x hx hl hc
    have h := nx_is b x
    have hne : ¬ ∀ z, x < z → z ≤ y → ¬ fit b.sch z := fun hno => by
      have : cR (fB b) (x + 1) (y - x).toNat = 0 := cR_none fun j hj => by
        cases hq : fB b (x + 1 + j) with
        | false => rfl
        | true => exact absurd ((fB_iff b _).1 hq) (hno _ (by omega) (by omega))
      omega
    obtain ⟨u, hu1, hu2, hu3⟩ : ∃ u, x < u ∧ u ≤ y ∧ fit b.sch u := Classical.byContradiction fun hno => hne fun z h1 h2 hf => hno ⟨z, h1, h2, hf⟩
    have hul : yr (u / 86400) ≤ lastY x := Int.le_trans (yr_mono (by omega)) hl
    cases hn : NX b x with
    | none =>
      rw [hn] at h
      exact absurd hu3 (h u (by omega) hul)
    | some z =>
      rw [hn] at h
      obtain ⟨z1, z2, z3, z4⟩ := h
      have hzu : z ≤ u := Classical.byContradiction fun hno => z4 u (by omega) (by omega) hu3
      have e := cR_add (fB b) (x + 1) (z - x - 1).toNat (1 + (y - z).toNat)
      rw [show (z - x - 1).toNat + (1 + (y - z).toNat) = (y - x).toNat by omega, hc, show x + 1 + (((z - x - 1).toNat : Nat) : Int) = z by omega, cR_add (fB b) z 1] at e
      have e0 : cR (fB b) (x + 1) (z - x - 1).toNat = 0 := cR_none fun j hj => by
        cases hq : fB b (x + 1 + j) with
        | false => rfl
        | true => exact absurd ((fB_iff b _).1 hq) (z4 _ (by omega) (by omega))
      have e1 : cR (fB b) z 1 = 1 := by
        have : cR (fB b) z 1 = 0 + (if fB b (z + (0 : Nat)) then 1 else 0) := rfl
        rw [this, show z + ((0 : Nat) : Int) = z by omega, (fB_iff b z).2 z2]
        rfl
      have ihz := ih z (by omega) (Int.le_trans hl (lastY_mono (by omega))) (by
        rw [show z + ((1 : Nat) : Int) = z + 1 from rfl] at e
        omega)
      rw [nexts_some hn]
      refine ⟨⟨by omega, by omega, ihz.1⟩, by omega, fun z' hz' => ?_⟩
      rw [hn] at hz'
      injection hz' with hz'
      subst hz'
      exact ihz.2
/-- What the law asks of the activations. -/
def At (ys : List Int) (i : Nat) : Int := ys.getD i 0
theorem ch_at (b : SB) (y : Int) : ∀ (k : Nat) (x : Int) (ys : List Int), Ch b y k x ys →
    (∀ i, i < ys.length → (i < k → At ys i ≤ y) ∧ (k ≤ i → y < At ys i) ∧ (i = 0 → x < At ys i) ∧ (0 < i → At ys (i - 1) < At ys i)) ∧
    (ys.length = k + 1 ∨ (ys.length = k ∧ NX b (if k = 0 then x else At ys (k - 1)) = none))
  | 0, x, [], h => ⟨fun i hi => by simp at hi, Or.inr ⟨rfl, h⟩⟩
  | 0, x, [z], h => ⟨fun i hi => by
      obtain rfl : i = 0 := by simp at hi; exact hi
      exact ⟨fun c => by omega, fun _ => h.2, fun _ => h.1, fun c => by omega⟩, Or.inl rfl⟩
  | 0, _, _ :: _ :: _, h => h.elim
  | k + 1, x, [], h => h.elim
  | k + 1, x, z :: r, h => by
    obtain ⟨h1, h2, h3⟩ := h
    have ih := ch_at b y k z r h3
    refine ⟨fun i hi => ?_, ?_⟩
    · cases i with
      | zero => exact ⟨fun _ => h2, fun c => by omega, fun _ => h1, fun c => by omega⟩
      | succ i =>
        have hi' : i < r.length := by simpa using hi
        have g := ih.1 i hi'
        refine ⟨fun c => g.1 (by omega), fun c => g.2.1 (by omega), fun c => by omega, fun _ => ?_⟩
        cases i with
        | zero => exact g.2.2.1 rfl
        | succ i => exact g.2.2.2 (by omega)
    · rcases ih.2 with c | ⟨c, hn⟩
      · exact Or.inl (by simp [c])
      · refine Or.inr ⟨by simp [c], ?_⟩
        rw [if_neg (by omega), show k + 1 - 1 = k by omega]
        cases k with
        | zero => exact hn
        | succ k => rw [if_neg (by omega), show k + 1 - 1 = k by omega] at hn; exact hn
theorem rowsI_at (ys : List Int) : ∀ i, i < ys.length → (rowsI ys)[2 * i]? = some (.int .i64 (At ys i)) ∧ (rowsI ys)[2 * i + 1]? = some (.int .i64 0) := by
  induction ys with
  | nil => intro i hi; simp at hi
  | cons z r ih =>
    intro i hi
    cases i with
    | zero => exact ⟨rfl, rfl⟩
    | succ i =>
      have := ih i (by simpa using hi)
      exact this
theorem next_in (b : SB) (x : Int) (x1 : x ≤ 253402300799) {z : Int} (h : NX b x = some z) : x < z ∧ z ≤ 267840000000 := by
  have hn := nx_is b x
  rw [h] at hn
  obtain ⟨h1, h2, h3, h4⟩ := hn
  have hl : yr ((x + 1) / 86400) ≤ 10000 := by
    refine yr_le.2 ?_
    rw [show ys (10000 + 1) = 2933263 by decide]
    omega
  have hd := dom_day (last := lastY x) (n := z / 86400) (by unfold lastY; omega) h3
  exact ⟨by omega, by omega⟩
theorem ch_bd (b : SB) : ∀ (k : Nat) (x : Int), Asked b k x → -62135596800 ≤ x → ∀ i, i < (nexts b k x).length → -62135596800 < At (nexts b k x) i ∧ At (nexts b k x) i ≤ 267840000000 := by
  intro k
  induction k with
  | zero => intro x _ _ i hi; simp [nexts] at hi
  | succ k ih =>
    intro x ha hx i hi
    cases hn : NX b x with
    | none => rw [nexts_none hn] at hi; simp at hi
    | some z =>
      rw [nexts_some hn] at hi ⊢
      have h := next_in b x ha.1 hn
      cases i with
      | zero => exact ⟨by show -62135596800 < z; omega, by show z ≤ 267840000000; omega⟩
      | succ i => exact ih z (ha.2 z hn) (by omega) i (by simpa using hi)
end Go.Proofs.Ytlgdaegaahnkbaa.Tm
