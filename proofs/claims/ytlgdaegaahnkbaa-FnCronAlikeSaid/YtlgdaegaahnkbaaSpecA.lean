/- The reference's sets, by hand: CronSetOf. -/
import Derived.Test.YtlgdaegaahnkbaaTimeI
import Derived.Deep.WholeRow
namespace Go.Proofs.Ytlgdaegaahnkbaa.Tm
open Go Go.RowKit Cal MC
open Go.Proofs.YtlgdaegaahnkbaaW.PrintWords
set_option linter.unusedVariables false
set_option linter.unusedSimpArgs false
/-- An array of truth values. -/
def arrB (n : Nat) (f : Nat → Bool) : Array Value := ((List.range n).map fun i => Value.bool (f i)).toArray
theorem arrB_size (n : Nat) (f : Nat → Bool) : (arrB n f).size = n := by simp [arrB]
theorem arrB_get (n : Nat) (f : Nat → Bool) (i : Nat) (h : i < n) : (arrB n f)[i]? = some (.bool (f i)) := by simp [arrB, h]
theorem arrB_one (n : Nat) (f : Nat → Bool) : (arrB n f).all (·.oneCell') = true := by
  rw [Array.all_eq_true_iff_forall_mem]
  intro v hv
  simp [arrB] at hv
  obtain ⟨i, _, rfl⟩ := hv
  rfl
def upd (f : Nat → Bool) (i : Nat) (b : Bool) : Nat → Bool := fun j => if j = i then b else f j
theorem arrB_set (n : Nat) (f : Nat → Bool) (i : Nat) (b : Bool) : (arrB n f).setIfInBounds i (.bool b) = arrB n (upd f i b) := by
  apply Array.ext_getElem?
  intro j
  rw [Array.getElem?_setIfInBounds]
  unfold arrB upd
  by_cases e : i = j
  · subst e
    by_cases h : i < n <;> simp [h]
  · rw [if_neg e]
    have e' : ¬ j = i := fun h => e h.symm
    rcases Nat.lt_or_ge j n with h | h
    · simp [h, e']
    · simp [h]
theorem zero30 : (Try.prog.info? 30).map (fun i => (i.zero, i.size)) = some (some (.agg (arrB 64 fun _ => false)), 64) := by kernel_rfl
def lowK (k : Int) : Int := if k = 3 then 1 else if k = 4 then 1 else 0
def highK (k : Int) : Int := if k = 2 then 23 else if k = 3 then 31 else if k = 4 then 12 else if k = 5 then 6 else 59
theorem low_f (k : Int) : spec_CronLow.f k = some (lowK k) := by
  unfold spec_CronLow.f lowK
  split
  · rfl
  · split <;> rfl
theorem high_f (k : Int) : spec_CronHigh.f k = some (highK k) := by
  unfold spec_CronHigh.f highK
  split
  · rfl
  · split
    · rfl
    · split
      · rfl
      · split <;> rfl
theorem low_c (k : Int) (w : World) : Calls Try.prog 57 #[.int .i64 k] w fun e w' => e = .returned (.int .i64 (lowK k)) ∧ Below w.heap.size w w' :=
  (spec_CronLow.calls k _ w (low_f k)).mono fun _ _ ⟨he, hd⟩ => ⟨he, hd.below⟩
theorem high_c (k : Int) (w : World) : Calls Try.prog 58 #[.int .i64 k] w fun e w' => e = .returned (.int .i64 (highK k)) ∧ Below w.heap.size w w' :=
  (spec_CronHigh.calls k _ w (high_f k)).mono fun _ _ ⟨he, hd⟩ => ⟨he, hd.below⟩
theorem low_bd (k : Int) : 0 ≤ lowK k ∧ lowK k ≤ 1 := by unfold lowK; split; omega; split <;> omega
theorem high_bd (k : Int) : 6 ≤ highK k ∧ highK k ≤ 59 := by unfold highK; repeat (first | omega | split)
/-- The cells of a set: its star, and its values below v. -/
def setB (k : Int) (B : Nat) (v : Int) (star : Bool) : Nat → Bool := fun i => if i = 0 then star else decide (lowK k ≤ ((i : Int) - 1) ∧ ((i : Int) - 1) ≤ highK k ∧ ((i : Int) - 1) < v) && B.testBit (i - 1)
theorem setB_start (k : Int) (B : Nat) : arrB 64 (setB k B (lowK k) false) = arrB 64 fun _ => false := by
  congr 1
  funext i
  unfold setB
  split
  · rfl
  · rw [decide_eq_false (by omega)]; rfl
theorem setB_next (k : Int) (B : Nat) (v : Int) (h0 : lowK k ≤ v) (h1 : v ≤ highK k) (hv : 0 ≤ v) : upd (setB k B v false) (1 + v.toNat) (B.testBit v.toNat) = setB k B (v + 1) false := by
  funext i
  unfold upd setB
  by_cases e : i = 1 + v.toNat
  · subst e
    rw [if_pos rfl, if_neg (by omega), decide_eq_true (by omega), show 1 + v.toNat - 1 = v.toNat by omega]
    simp
  · rw [if_neg e]
    split
    · rfl
    · congr 1
      by_cases h : lowK k ≤ (i : Int) - 1 ∧ (i : Int) - 1 ≤ highK k ∧ (i : Int) - 1 < v
      · rw [decide_eq_true h, decide_eq_true (by omega)]
      · rw [decide_eq_false h, decide_eq_false (by omega)]
theorem setB_end (k : Int) (B : Nat) (v : Int) (h0 : highK k < v) (st : Bool) : upd (setB k B v false) 0 st = setB k B 60 st := by
  have hb := high_bd k
  funext i
  unfold upd setB
  by_cases e : i = 0
  · subst e
    simp
  · rw [if_neg e, if_neg e, if_neg e]
    congr 1
    by_cases h : lowK k ≤ (i : Int) - 1 ∧ (i : Int) - 1 ≤ highK k ∧ (i : Int) - 1 < v
    · rw [decide_eq_true h, decide_eq_true (by omega)]
    · rw [decide_eq_false h, decide_eq_false (by omega)]
theorem bit_at (B n : Nat) (hB : B < 18446744073709551616) : (Go.bits .and .u64 ((B : Int) / 2 ^ n) 1 == 1) = B.testBit n := by
  have e : (B : Int) / 2 ^ n = ((B / 2 ^ n : Nat) : Int) := by simp
  have h := bits_and_u64_nat (B / 2 ^ n) 1 (Nat.lt_of_le_of_lt (Nat.div_le_self _ _) hB) (by decide)
  rw [show ((1 : Nat) : Int) = 1 from rfl] at h
  rw [e, h, Nat.and_one_is_mod, Nat.testBit_eq_decide_div_mod_eq]
  have := Nat.mod_two_eq_zero_or_one (B / 2 ^ n)
  rcases this with h | h <;> simp [h]
theorem star_ne (B : Nat) (hB : B < 18446744073709551616) : (Go.bits .and .u64 (B : Int) 9223372036854775808 != 0) = B.testBit 63 := by
  have h := bits_and_u64_nat B 9223372036854775808 hB (by decide)
  rw [show ((9223372036854775808 : Nat) : Int) = 9223372036854775808 from rfl] at h
  rw [h, show (9223372036854775808 : Nat) = 2 ^ 63 by decide, Nat.and_comm, and_pow]
  cases B.testBit 63 <;> simp
theorem Am.setOne {w w1 : World} {t r : Array Value} {tt tr : TypeId} (h : Am w w1 t r tt tr) (i : Nat) (u : Value) : Am w (w1.setCell ⟨w.heap.size + 1, i, none⟩ u) t (r.setIfInBounds i u) tt tr :=
  ⟨by rw [Below.heap_setCell _ _ _ _ (by simp)]; exact h.T, blk_set h.R i u, h.B.setCell (by simp) _⟩
theorem below_row {B g : Nat} {a w : World} (h : Below B a w) (hg : B ≤ g) (cs : Array Value) : Below B a (w.setRow g cs) :=
  ⟨h.os, h.tape, h.output, by rw [setRow_size]; exact h.size, fun k hk => (setRow_other w g k cs (by omega)).trans (h.block k hk)⟩
set_option maxHeartbeats 2000000 in
set_option maxRecDepth 100000 in
theorem setOf_any (k : Int) (B : Nat) (w : World) (hB : B < 18446744073709551616) :
    Calls Try.prog 32 #[.int .i64 k, .int .u64 (B : Int)] w fun e w' => e = .returned (.agg (arrB 64 (setB k B 60 (B.testBit 63)))) ∧ Below w.heap.size w w' := by
  have zz := (zero_of_info zero30).1
  have hI := Aside0.mk (am_start w (arrB 64 fun _ => false) (arrB 64 fun _ => false) 30 30)
  have lb := low_bd k
  have hb0 := high_bd k
  go_enter Try.func32, Try.ntmps32
  go_wp2_with (go_at_call 57; (with_reducible refine (low_c k _).mono ?_); rintro e w1 ⟨rfl, hb⟩; have hI := Aside0.mk (hI.out.below hb); clear hb)
  rw [← setB_start k B] at hI
  go_loopg [6] 60 (fun gk s6 wr => ∃ v : Int, s6 = .int .i64 v ∧ Aside0 (Am w wr (arrB 64 (setB k B (lowK k) false)) (arrB 64 (setB k B v false)) 30 30) ∧ Aside0 (lowK k ≤ v ∧ v ≤ highK k + 1 ∧ (60 - v).toNat ≤ gk))
  case atStart => exact ⟨lowK k, rfl, hI, ⟨by omega, by omega, by omega⟩⟩
  case round =>
    clear hI
    obtain ⟨v, rfl, hI, HA⟩ := hrel
    have v0 : 0 ≤ v := by have := HA.out.1; omega
    have v1 : v ≤ 60 := by have := HA.out.2.1; omega
    by_cases hv : v ≤ highK k
    · have e0 : decide (v ≤ highK k) = true := decide_eq_true hv
      obtain ⟨j, hj⟩ : ∃ j : Nat, j = 1 + v.toNat := ⟨_, rfl⟩
      go_upto_region 5 with (go_at_call 58; (with_reducible refine (high_c k _).mono ?_); rintro e w2 ⟨rfl, hb⟩; have hI := Aside0.mk (hI.out.below hb); clear hb)
      have c0 : World.cell? _ ⟨w.heap.size + 1, 1 + v.toNat, none⟩ = some (.bool (setB k B v false (1 + v.toNat))) := (blk_cell hI.out.R (1 + v.toNat)).trans (arrB_get _ _ _ (by omega))
      have f0 := blk_frozen hI.out.R (1 + v.toNat)
      have hE := bit_at B v.toNat hB
      go_upto_region 4 with fail
      have hI := Aside0.mk (hI.out.setOne (1 + v.toNat) (.bool (B.testBit v.toNat)))
      rw [arrB_set, setB_next k B v HA.out.1 hv v0] at hI
      clear c0 f0 hE
      generalize hg : World.setCell _ _ (.bool (B.testBit v.toNat)) = w7 at hI ⊢
      clear hg
      go_wp2_with fail
      go_roundg (60 - (v + 1)).toNat
      case measure => have := HA.out.2.2; omega
      case rel => exact ⟨v + 1, rfl, hI, ⟨by have := HA.out.1; omega, by omega, Nat.le_refl _⟩⟩
    · have e0 : decide (v ≤ highK k) = false := decide_eq_false hv
      go_upto_region 6 with (go_at_call 58; (with_reducible refine (high_c k _).mono ?_); rintro e w2 ⟨rfl, hb⟩; have hI := Aside0.mk (hI.out.below hb); clear hb)
      have c0 : World.cell? _ ⟨w.heap.size + 1, 0, none⟩ = some (.bool (setB k B v false 0)) := (blk_cell hI.out.R 0).trans (arrB_get _ _ _ (by omega))
      have f0 := blk_frozen hI.out.R 0
      have hE := star_ne B hB
      go_upto_region 7 with fail
      have hI := Aside0.mk (hI.out.setOne 0 (.bool (B.testBit 63)))
      rw [arrB_set, setB_end k B v (by omega)] at hI
      clear c0 f0 hE
      generalize hg : World.setCell _ _ (.bool (B.testBit 63)) = w7 at hI ⊢
      clear hg
      have Hall : (arrB 64 (setB k B 60 (B.testBit 63))).all (·.oneCell') = true := arrB_one _ _
      have H30 : (Try.prog.info? 30).map (·.size) = some (arrB 64 (setB k B 60 (B.testBit 63))).size := by rw [arrB_size]; exact (zero_of_info zero30).2
      have Hold : (arrB 64 (setB k B (lowK k) false)).size = (arrB 64 (setB k B 60 (B.testBit 63))).size := by rw [arrB_size, arrB_size]
      have HR := Aside0.mk Hall
      have HS := Aside0.mk H30
      have HT := Aside0.mk Hold
      clear Hall H30 Hold
      go_wp2_with (first | (refine wpList_load_row rfl 30 (.tmp 5) rfl (w.heap.size + 1) rfl 30 _ (0, 0) _ hI.out.R Try.underlying30 rfl HS.out ?_) | (refine wpList_store_row rfl 30 (.tmp 4) (.tmp 27) rfl w.heap.size _ rfl rfl 30 _ hI.out.T HS.out HT.out HR.out ?_))
      have hset := setRow_heap _ w.heap.size _ (arrB 64 (setB k B 60 (B.testBit 63))) _ _ hI.out.T
      exact bodyPost_ret (results_cell_row rfl _ _ w.heap.size 30 _ _ _ rfl hset Try.underlying30 rfl HS.out) rfl ⟨rfl, below_row hI.out.B (Nat.le_refl _) _⟩
end Go.Proofs.Ytlgdaegaahnkbaa.Tm
