/- What is proved: by hand, the comparison of the first numbers of two versions. -/
import Derived.Test.YtalpehfjjidfhaaDoorHandC
namespace Go.Proofs.YtalpehfjjidfhaaDoor.Hand
set_option linter.unusedVariables false
set_option linter.unusedSimpArgs false
open Go.RowKit Go.Proofs.YtalpehfjjidfhaaDoorW.PrintWords Sv
set_option maxHeartbeats 1000000 in
theorem order_any (a b : Int) (w : World) : Calls Tryd.prog 154 #[.int .u64 a, .int .u64 b] w fun e w' => e = .returned (.int .i64 (seg a b)) ∧ w' = w := by
 unfold seg
 by_cases h1 : a < b
 ·
  rw [if_pos h1]
  go_enter Tryd.func154, Tryd.ntmps154
  go_wp2
  go_ret
  exact ⟨rfl, rfl⟩
 ·
  by_cases h2 : b < a
  ·
   rw [if_neg h1, if_pos h2]
   go_enter Tryd.func154, Tryd.ntmps154
   go_wp2
   go_ret
   exact ⟨rfl, rfl⟩
  ·
   rw [if_neg h1, if_neg h2]
   go_enter Tryd.func154, Tryd.ntmps154
   go_wp2
   go_ret
   exact ⟨rfl, rfl⟩
/-- The comparison of the first n numbers. -/
def cnum (M m t M' m' t' : Int) : Nat → Int
 | 0 => 0
 | 1 => seg M M'
 | 2 => if seg M M' = 0 then seg m m' else seg M M'
 | _ => if seg M M' = 0 then if seg m m' = 0 then seg t t' else seg m m' else seg M M'
def cnumI (M m t M' m' t' k : Int) : Int := cnum M m t M' m' t' (min k.toNat 3)
theorem keepN {M m t M' m' t' : Int} {X Y : Nat} {w cur : World} (h : cur.cell? ⟨X, 0, none⟩ = some (.int .u64 M) ∧ cur.cell? ⟨X, 1, none⟩ = some (.int .u64 m) ∧ cur.cell? ⟨X, 2, none⟩ = some (.int .u64 t) ∧ cur.cell? ⟨Y, 0, none⟩ = some (.int .u64 M') ∧ cur.cell? ⟨Y, 1, none⟩ = some (.int .u64 m') ∧ cur.cell? ⟨Y, 2, none⟩ = some (.int .u64 t') ∧ Below w.heap.size w cur) : cur.drew.cell? ⟨X, 0, none⟩ = some (.int .u64 M) ∧ cur.drew.cell? ⟨X, 1, none⟩ = some (.int .u64 m) ∧ cur.drew.cell? ⟨X, 2, none⟩ = some (.int .u64 t) ∧ cur.drew.cell? ⟨Y, 0, none⟩ = some (.int .u64 M') ∧ cur.drew.cell? ⟨Y, 1, none⟩ = some (.int .u64 m') ∧ cur.drew.cell? ⟨Y, 2, none⟩ = some (.int .u64 t') ∧ Below w.heap.size w cur.drew := by
 obtain ⟨h0, h1, h2, h3, h4, h5, hB⟩ := h
 exact ⟨h0, h1, h2, h3, h4, h5, hB.drew⟩
theorem lastN {M m t M' m' t' : Int} {X Y : Nat} {w cur : World} (h : cur.cell? ⟨X, 0, none⟩ = some (.int .u64 M) ∧ cur.cell? ⟨X, 1, none⟩ = some (.int .u64 m) ∧ cur.cell? ⟨X, 2, none⟩ = some (.int .u64 t) ∧ cur.cell? ⟨Y, 0, none⟩ = some (.int .u64 M') ∧ cur.cell? ⟨Y, 1, none⟩ = some (.int .u64 m') ∧ cur.cell? ⟨Y, 2, none⟩ = some (.int .u64 t') ∧ Below w.heap.size w cur) : Below w.heap.size w cur := h.2.2.2.2.2.2
theorem cnum_at0 {M m t M' m' t' k : Int} (h0 : cnum M m t M' m' t' 0 = 0) (hz : ¬ seg M M' = 0) (hk : 0 < k) : seg M M' = cnum M m t M' m' t' (min k.toNat 3) := by
 rcases (show min k.toNat 3 = 1 ∨ min k.toNat 3 = 2 ∨ min k.toNat 3 = 3 by omega) with e | e | e <;> rw [e] <;> simp [cnum, hz]
theorem cnum_at1 {M m t M' m' t' k : Int} (h0 : cnum M m t M' m' t' 1 = 0) (hz : ¬ seg m m' = 0) (hk : 1 < k) : seg m m' = cnum M m t M' m' t' (min k.toNat 3) := by
 have h0 : seg M M' = 0 := h0
 rcases (show min k.toNat 3 = 2 ∨ min k.toNat 3 = 3 by omega) with e | e <;> rw [e] <;> simp [cnum, hz, h0]
theorem cnum_at2 {M m t M' m' t' k : Int} (h0 : cnum M m t M' m' t' 2 = 0) (hz : ¬ seg t t' = 0) (hk : 2 < k) : seg t t' = cnum M m t M' m' t' (min k.toNat 3) := by
 simp only [cnum] at h0
 split at h0
 ·
  rename_i h1
  rw [show min k.toNat 3 = 3 by omega]; simp [cnum, h1, h0]
 ·
  rename_i h1; exact absurd h0 h1
set_option maxHeartbeats 2000000 in
theorem CompareNumbers_any (M m t : Int) (u v : ByteArray) (M' m' t' : Int) (u' v' : ByteArray) (k : Int) (w : World) : Calls Tryd.prog 111 #[.agg #[.int .u64 M, .int .u64 m, .int .u64 t, .string u, .string v], .agg #[.int .u64 M', .int .u64 m', .int .u64 t', .string u', .string v'], .int .i64 k] w fun e w' => e = .returned (.int .i64 (cnumI M m t M' m' t' k)) ∧ Below w.heap.size w w' := by
 go_enter Tryd.func111, Tryd.ntmps111
 go_wp2_with fail
 go_cut [7, 8] (fun v7 v8 wc => ∃ X Y : Nat, v7 = .pointer (some ⟨X, 0, none⟩) ∧ v8 = .pointer (some ⟨Y, 0, none⟩) ∧ wc.cell? ⟨X, 0, none⟩ = some (.int .u64 M) ∧ wc.cell? ⟨X, 1, none⟩ = some (.int .u64 m) ∧ wc.cell? ⟨X, 2, none⟩ = some (.int .u64 t) ∧ wc.cell? ⟨Y, 0, none⟩ = some (.int .u64 M') ∧ wc.cell? ⟨Y, 1, none⟩ = some (.int .u64 m') ∧ wc.cell? ⟨Y, 2, none⟩ = some (.int .u64 t') ∧ Below w.heap.size w wc)
 case first =>
  go_region_held3 (fun w' => w'.cell? ⟨w.heap.size, 0, none⟩ = some (.int .u64 M) ∧ w'.cell? ⟨w.heap.size, 1, none⟩ = some (.int .u64 m) ∧ w'.cell? ⟨w.heap.size, 2, none⟩ = some (.int .u64 t) ∧ w'.cell? ⟨w.heap.size + 1, 0, none⟩ = some (.int .u64 M') ∧ w'.cell? ⟨w.heap.size + 1, 1, none⟩ = some (.int .u64 m') ∧ w'.cell? ⟨w.heap.size + 1, 2, none⟩ = some (.int .u64 t')) (first | (refine ⟨?_, ?_, ?_, ?_, ?_, ?_⟩ <;> go_simp; done) | go_keep) (first | fail)
  all_goals
   go_wp2_with fail
   go_meet
   refine ⟨_, _, rfl, rfl, ?_, ?_, ?_, ?_, ?_, ?_, (((((Below.refl _ _).alloc (Nat.le_refl _) _).alloc (by simp) _).alloc (by simp; omega) _).alloc (by simp; omega) _).drew⟩ <;> go_simp
 case rest =>
  obtain ⟨X, Y, rfl, rfl, hxy⟩ := hcut
  go_wp2_with fail
  go_loopw [9, 10] (fun i c wx => ∃ n : Nat, n ≤ 3 ∧ ((n : Int) ≤ k ∨ n = 0) ∧ i = .int .i64 (n : Int) ∧ cnum M m t M' m' t' n = 0 ∧ wx.cell? ⟨X, 0, none⟩ = some (.int .u64 M) ∧ wx.cell? ⟨X, 1, none⟩ = some (.int .u64 m) ∧ wx.cell? ⟨X, 2, none⟩ = some (.int .u64 t) ∧ wx.cell? ⟨Y, 0, none⟩ = some (.int .u64 M') ∧ wx.cell? ⟨Y, 1, none⟩ = some (.int .u64 m') ∧ wx.cell? ⟨Y, 2, none⟩ = some (.int .u64 t') ∧ Below w.heap.size w wx) (fun i _ _ => 3 - (intOf i).toNat)
  case atStart => exact ⟨0, by omega, Or.inr rfl, rfl, rfl, hxy⟩
  case round =>
   obtain ⟨n, hn, hnk, rfl, hz0, hxy⟩ := hrel
   rcases (show n = 0 ∨ n = 1 ∨ n = 2 ∨ n = 3 by omega) with rfl | rfl | rfl | rfl
   ·
    -- round 0
    by_cases hk : (0 : Int) < k
    ·
     have hk1 : ((0 : Nat) : Int) < k := by omega
     by_cases hz : seg M M' = 0
     ·
      have hzb : (seg M M' == 0) = true := beq_iff_eq.2 hz
      go_wp2_with fail
      go_region_held3 (fun w' => w'.cell? ⟨X, 0, none⟩ = some (.int .u64 M) ∧ w'.cell? ⟨X, 1, none⟩ = some (.int .u64 m) ∧ w'.cell? ⟨X, 2, none⟩ = some (.int .u64 t) ∧ w'.cell? ⟨Y, 0, none⟩ = some (.int .u64 M') ∧ w'.cell? ⟨Y, 1, none⟩ = some (.int .u64 m') ∧ w'.cell? ⟨Y, 2, none⟩ = some (.int .u64 t') ∧ Below w.heap.size w w') (first | exact keepN (by assumption) | go_keep) (first | (go_at_call 154; (with_reducible refine (order_any M M' _).mono ?_); rintro e wn ⟨rfl, rfl⟩))
      go_wp2_with fail
      go_roundw
      case rel => exact ⟨0 + 1, by omega, by omega, rfl, by first | exact hz | (simp only [cnum] at hz0 ⊢; simp [hz0, hz]; done) | (simp only [cnum] at hz0 ⊢; split at hz0 <;> simp_all), by assumption⟩
      case measure => first | decide | (simp [intOf]; done)
     ·
      have hzb : (seg M M' == 0) = false := beq_eq_false_iff_ne.2 hz
      go_wp2_with fail
      go_region_held3 (fun w' => w'.cell? ⟨X, 0, none⟩ = some (.int .u64 M) ∧ w'.cell? ⟨X, 1, none⟩ = some (.int .u64 m) ∧ w'.cell? ⟨X, 2, none⟩ = some (.int .u64 t) ∧ w'.cell? ⟨Y, 0, none⟩ = some (.int .u64 M') ∧ w'.cell? ⟨Y, 1, none⟩ = some (.int .u64 m') ∧ w'.cell? ⟨Y, 2, none⟩ = some (.int .u64 t') ∧ Below w.heap.size w w') (first | exact keepN (by assumption) | go_keep) (first | (go_at_call 154; (with_reducible refine (order_any M M' _).mono ?_); rintro e wn ⟨rfl, rfl⟩))
      go_wp2_with fail
      go_ret
      exact ⟨by rw [cnumI]; exact congrArg (fun z => Ending.returned (.int .i64 z)) (cnum_at0 hz0 hz (by omega)), lastN (by assumption)⟩
    ·
     have hk1 : ¬ ((0 : Nat) : Int) < k := by omega
     go_wp2_with fail
     go_ret
     exact ⟨by rw [cnumI, show min k.toNat 3 = 0 by omega, hz0]; rfl, lastN hxy⟩
   ·
    -- round 1
    by_cases hk : (1 : Int) < k
    ·
     have hk1 : ((1 : Nat) : Int) < k := by omega
     by_cases hz : seg m m' = 0
     ·
      have hzb : (seg m m' == 0) = true := beq_iff_eq.2 hz
      go_wp2_with fail
      go_region_held3 (fun w' => w'.cell? ⟨X, 0, none⟩ = some (.int .u64 M) ∧ w'.cell? ⟨X, 1, none⟩ = some (.int .u64 m) ∧ w'.cell? ⟨X, 2, none⟩ = some (.int .u64 t) ∧ w'.cell? ⟨Y, 0, none⟩ = some (.int .u64 M') ∧ w'.cell? ⟨Y, 1, none⟩ = some (.int .u64 m') ∧ w'.cell? ⟨Y, 2, none⟩ = some (.int .u64 t') ∧ Below w.heap.size w w') (first | exact keepN (by assumption) | go_keep) (first | (go_at_call 154; (with_reducible refine (order_any m m' _).mono ?_); rintro e wn ⟨rfl, rfl⟩))
      go_wp2_with fail
      go_roundw
      case rel => exact ⟨1 + 1, by omega, by omega, rfl, by first | exact hz | (simp only [cnum] at hz0 ⊢; simp [hz0, hz]; done) | (simp only [cnum] at hz0 ⊢; split at hz0 <;> simp_all), by assumption⟩
      case measure => first | decide | (simp [intOf]; done)
     ·
      have hzb : (seg m m' == 0) = false := beq_eq_false_iff_ne.2 hz
      go_wp2_with fail
      go_region_held3 (fun w' => w'.cell? ⟨X, 0, none⟩ = some (.int .u64 M) ∧ w'.cell? ⟨X, 1, none⟩ = some (.int .u64 m) ∧ w'.cell? ⟨X, 2, none⟩ = some (.int .u64 t) ∧ w'.cell? ⟨Y, 0, none⟩ = some (.int .u64 M') ∧ w'.cell? ⟨Y, 1, none⟩ = some (.int .u64 m') ∧ w'.cell? ⟨Y, 2, none⟩ = some (.int .u64 t') ∧ Below w.heap.size w w') (first | exact keepN (by assumption) | go_keep) (first | (go_at_call 154; (with_reducible refine (order_any m m' _).mono ?_); rintro e wn ⟨rfl, rfl⟩))
      go_wp2_with fail
      go_ret
      exact ⟨by rw [cnumI]; exact congrArg (fun z => Ending.returned (.int .i64 z)) (cnum_at1 hz0 hz (by omega)), lastN (by assumption)⟩
    ·
     have hk1 : ¬ ((1 : Nat) : Int) < k := by omega
     go_wp2_with fail
     go_ret
     exact ⟨by rw [cnumI, show min k.toNat 3 = 1 by omega, hz0]; rfl, lastN hxy⟩
   ·
    -- round 2
    by_cases hk : (2 : Int) < k
    ·
     have hk1 : ((2 : Nat) : Int) < k := by omega
     by_cases hz : seg t t' = 0
     ·
      have hzb : (seg t t' == 0) = true := beq_iff_eq.2 hz
      go_wp2_with fail
      go_region_held3 (fun w' => w'.cell? ⟨X, 0, none⟩ = some (.int .u64 M) ∧ w'.cell? ⟨X, 1, none⟩ = some (.int .u64 m) ∧ w'.cell? ⟨X, 2, none⟩ = some (.int .u64 t) ∧ w'.cell? ⟨Y, 0, none⟩ = some (.int .u64 M') ∧ w'.cell? ⟨Y, 1, none⟩ = some (.int .u64 m') ∧ w'.cell? ⟨Y, 2, none⟩ = some (.int .u64 t') ∧ Below w.heap.size w w') (first | exact keepN (by assumption) | go_keep) (first | (go_at_call 154; (with_reducible refine (order_any t t' _).mono ?_); rintro e wn ⟨rfl, rfl⟩))
      go_wp2_with fail
      go_roundw
      case rel => exact ⟨2 + 1, by omega, by omega, rfl, by first | exact hz | (simp only [cnum] at hz0 ⊢; simp [hz0, hz]; done) | (simp only [cnum] at hz0 ⊢; split at hz0 <;> simp_all), by assumption⟩
      case measure => first | decide | (simp [intOf]; done)
     ·
      have hzb : (seg t t' == 0) = false := beq_eq_false_iff_ne.2 hz
      go_wp2_with fail
      go_region_held3 (fun w' => w'.cell? ⟨X, 0, none⟩ = some (.int .u64 M) ∧ w'.cell? ⟨X, 1, none⟩ = some (.int .u64 m) ∧ w'.cell? ⟨X, 2, none⟩ = some (.int .u64 t) ∧ w'.cell? ⟨Y, 0, none⟩ = some (.int .u64 M') ∧ w'.cell? ⟨Y, 1, none⟩ = some (.int .u64 m') ∧ w'.cell? ⟨Y, 2, none⟩ = some (.int .u64 t') ∧ Below w.heap.size w w') (first | exact keepN (by assumption) | go_keep) (first | (go_at_call 154; (with_reducible refine (order_any t t' _).mono ?_); rintro e wn ⟨rfl, rfl⟩))
      go_wp2_with fail
      go_ret
      exact ⟨by rw [cnumI]; exact congrArg (fun z => Ending.returned (.int .i64 z)) (cnum_at2 hz0 hz (by omega)), lastN (by assumption)⟩
    ·
     have hk1 : ¬ ((2 : Nat) : Int) < k := by omega
     go_wp2_with fail
     go_ret
     exact ⟨by rw [cnumI, show min k.toNat 3 = 2 by omega, hz0]; rfl, lastN hxy⟩
   ·
    -- beyond
    by_cases hk : (3 : Int) < k
    ·
     have hk1 : ((3 : Nat) : Int) < k := by omega
     go_wp2_with fail
     go_ret
     exact ⟨by rw [cnumI, show min k.toNat 3 = 3 by omega, hz0]; rfl, (lastN hxy)⟩
    ·
     have hk1 : ¬ ((3 : Nat) : Int) < k := by omega
     go_wp2_with fail
     go_ret
     exact ⟨by rw [cnumI, show min k.toNat 3 = 3 by omega, hz0]; rfl, (lastN hxy)⟩
/-- What Go answers, where k is no more than 3 or more: any k. -/
def CompareNumbers.f (a0_0 a0_1 a0_2 : Int) (a0_3 a0_4 : ByteArray) (a1_0 a1_1 a1_2 : Int) (a1_3 a1_4 : ByteArray) (a2 : Int) : Option Int := some (cnumI a0_0 a0_1 a0_2 a1_0 a1_1 a1_2 a2)
theorem CompareNumbers.calls (a0_0 a0_1 a0_2 : Int) (a0_3 a0_4 : ByteArray) (a1_0 a1_1 a1_2 : Int) (a1_3 a1_4 : ByteArray) (a2 : Int) (r : Int) (w : World) (h : CompareNumbers.f a0_0 a0_1 a0_2 a0_3 a0_4 a1_0 a1_1 a1_2 a1_3 a1_4 a2 = some r) :
  Calls Tryd.prog 111 #[.agg #[.int .u64 a0_0, .int .u64 a0_1, .int .u64 a0_2, .string a0_3, .string a0_4], .agg #[.int .u64 a1_0, .int .u64 a1_1, .int .u64 a1_2, .string a1_3, .string a1_4], .int .i64 a2] w fun e w' => e = .returned (.int .i64 r) ∧ Below w.heap.size w w' := by
 unfold CompareNumbers.f at h
 injection h with h
 subst h
 exact CompareNumbers_any a0_0 a0_1 a0_2 a0_3 a0_4 a1_0 a1_1 a1_2 a1_3 a1_4 a2 w
end Go.Proofs.YtalpehfjjidfhaaDoor.Hand
