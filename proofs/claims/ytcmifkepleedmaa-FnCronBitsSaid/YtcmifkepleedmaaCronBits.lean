/- What is proved: CronBits is the set of low, low + step, low + 2 * step and so on, up to high, for all low and high up to 63 and steps from 1 to 2^32 (the law answers true at every input). No condition. -/
import Derived.Test.YtcmifkepleedmaaRows
import Derived.WalkKit
import Derived.ProofKit
import Derived.OpenShut
import Derived.ChangeOld
import Derived.Below
import Derived.SizedLaws
import Derived.WalkSpells
import Derived.WalkLawsBesides
import Derived.Lib.Hide
namespace Go.Proofs.Ytcmifkepleedmaa.CB
/-- The bits u below n with p u. -/
def orTo (p : Nat → Bool) : Nat → Nat
  | 0 => 0
  | n + 1 => if p n then orTo p n ||| 2 ^ n else orTo p n

theorem orTo_succ (p : Nat → Bool) (n : Nat) : orTo p (n + 1) = if p n then orTo p n ||| 2 ^ n else orTo p n := rfl

theorem orTo_lt (p : Nat → Bool) (n : Nat) : orTo p n < 2 ^ n := by
  induction n with
  | zero => simp [orTo]
  | succ n ih =>
    have h : orTo p n < 2 ^ (n + 1) := Nat.lt_of_lt_of_le ih (Nat.pow_le_pow_right (by decide) (by omega))
    unfold orTo
    split
    · exact Nat.or_lt_two_pow h (Nat.pow_lt_pow_right (by decide) (by omega))
    · exact h

theorem orTo_skip (p : Nat → Bool) (a d : Nat) (h : ∀ u, a ≤ u → u < a + d → p u = false) : orTo p (a + d) = orTo p a := by
  induction d with
  | zero => rfl
  | succ d ih =>
    rw [← Nat.add_assoc, orTo_succ, h (a + d) (by omega) (by omega)]
    simpa using ih fun u h1 h2 => h u h1 (by omega)

def pick (low step u : Nat) : Bool := decide (low ≤ u) && decide ((u - low) % step = 0)

theorem orTo_low (low step : Nat) : orTo (pick low step) low = 0 := by
  have := orTo_skip (pick low step) 0 low (fun u _ h => by simp [pick]; omega)
  simpa [orTo] using this

theorem orTo_round (low step j : Nat) (hs : 0 < step) : orTo (pick low step) (low + (j + 1) * step) = orTo (pick low step) (low + j * step) ||| 2 ^ (low + j * step) := by
  have e : low + (j + 1) * step = (low + j * step + 1) + (step - 1) := by rw [Nat.succ_mul]; omega
  rw [e, orTo_skip]
  · have hp : pick low step (low + j * step) = true := by simp [pick]
    rw [orTo_succ, hp]; rfl
  · intro u h1 h2
    simp only [pick, Bool.and_eq_false_iff, decide_eq_false_iff_not]
    right
    intro h
    have : u - low = j * step + (u - low - j * step) := by omega
    rw [this, Nat.mul_add_mod_self_right, Nat.mod_eq_of_lt (by omega)] at h
    omega

theorem orTo_end (low step j high : Nat) (hs : 0 < step) (h1 : high < low + (j + 1) * step) (h2 : low + j * step ≤ high) : orTo (pick low step) (low + (j + 1) * step) = orTo (pick low step) (high + 1) := by
  have e : low + (j + 1) * step = (high + 1) + (low + (j + 1) * step - (high + 1)) := by omega
  rw [e, orTo_skip]
  intro u h3 h4
  simp only [pick, Bool.and_eq_false_iff, decide_eq_false_iff_not]
  right
  intro h
  rw [Nat.succ_mul] at h4 h1
  have : u - low = j * step + (u - low - j * step) := by omega
  rw [this, Nat.mul_add_mod_self_right, Nat.mod_eq_of_lt (by omega)] at h
  omega

def oneOk (low high : Nat) : Bool := (((2^64-1) ^^^ ((2^64-1) * 2^(high+1) % 2^64)) &&& ((2^64-1)*2^low % 2^64)) == orTo (pick low 1) (high+1)
theorem one_all : (List.range 64).all (fun l => (List.range 64).all fun h => oneOk l h) = true := by decide +kernel
theorem one_ok (low high : Nat) (hl : low < 64) (hh : high < 64) : (((2^64-1) ^^^ ((2^64-1) * 2^(high+1) % 2^64)) &&& ((2^64-1)*2^low % 2^64)) = orTo (pick low 1) (high+1) := by
  have := List.all_eq_true.1 (List.all_eq_true.1 one_all low (List.mem_range.2 hl)) high (List.mem_range.2 hh)
  simpa [oneOk] using this

end Go.Proofs.Ytcmifkepleedmaa.CB

namespace Go.Proofs.Ytcmifkepleedmaa
open Go.RowKit CB
structure Reach (lo st hi n : Nat) : Prop where mk :: (out : ∃ j, n = lo + j * st ∧ (j = 0 ∨ lo + (j - 1) * st ≤ hi))
def bt (lo st n : Nat) : Int := (orTo (pick lo st) n : Nat)
theorem bt_lt (lo st n : Nat) (h : n ≤ 64) : orTo (pick lo st) n < 18446744073709551616 :=
  Nat.lt_of_lt_of_le (orTo_lt _ n) (Nat.le_trans (Nat.pow_le_pow_right (by decide) h) (by decide))
theorem pow_lt (n : Nat) (h : n ≤ 63) : 2 ^ n < 18446744073709551616 :=
  Nat.lt_of_le_of_lt (Nat.pow_le_pow_right (by decide) h) (by decide)
theorem pow_w (n : Nat) (h : n ≤ 63) : IntKind.u64.wrap ((2 : Int) ^ n) = ((2 ^ n : Nat) : Int) := by
  rw [IntKind.wrap_u64]
  have := pow_lt n h
  have e : ((2 : Int) ^ n) = ((2 ^ n : Nat) : Int) := by simp
  rw [e]
  generalize 2 ^ n = m at this ⊢
  omega
theorem or_step (lo st n : Nat) (h : n ≤ 63) : bits BinOp.or IntKind.u64 (bt lo st n) (IntKind.u64.wrap ((2 : Int) ^ n)) = ((orTo (pick lo st) n ||| 2 ^ n : Nat) : Int) := by
  rw [pow_w n h]
  exact bits_or_u64_nat _ _ (bt_lt lo st n (by omega)) (pow_lt n h)
theorem reach_lo (lo st hi : Nat) : Reach lo st hi lo := ⟨⟨0, by omega, Or.inl rfl⟩⟩
theorem bt_lo (lo st : Nat) : bt lo st lo = 0 := by unfold bt; rw [orTo_low]; rfl
theorem reach_next {lo st hi n : Nat} (hR : Reach lo st hi n) (hn : n ≤ hi) (hs : 0 < st) : Reach lo st hi (n + st) ∧ orTo (pick lo st) n ||| 2 ^ n = orTo (pick lo st) (n + st) := by
  obtain ⟨j, rfl, _⟩ := hR.out
  have e : lo + j * st + st = lo + (j + 1) * st := by rw [Nat.succ_mul]; omega
  refine ⟨⟨⟨j + 1, e, Or.inr (by simpa using hn)⟩⟩, ?_⟩
  rw [e, orTo_round lo st j hs]
theorem orTo_above (lo st hi : Nat) (h : hi < lo) : orTo (pick lo st) (hi + 1) = 0 := by
  have := orTo_skip (pick lo st) 0 (hi + 1) (fun u _ _ => by simp [pick]; omega)
  rw [Nat.zero_add] at this
  rw [this]; rfl
theorem reach_end {lo st hi n : Nat} (hR : Reach lo st hi n) (hn : ¬ n ≤ hi) (hs : 0 < st) : bt lo st n = bt lo st (hi + 1) := by
  unfold bt
  obtain ⟨j, rfl, h⟩ := hR.out
  rcases h with rfl | h
  · have e : lo + 0 * st = lo := by omega
    rw [e] at hn ⊢
    rw [orTo_low, orTo_above lo st hi (by omega)]
  · cases j with
    | zero => rw [orTo_above lo st hi (by omega)]; have e : lo + 0 * st = lo := by omega
              rw [e, orTo_low]
    | succ j => rw [orTo_end lo st j hi hs (by omega) (by simpa using h)]
set_option maxHeartbeats 400000 in
theorem getBits_more (lo hi st : Nat) (w : World) (_h2 : lo ≤ 63) (h4 : hi ≤ 63) (h5 : 1 < st) (h6 : st ≤ 4294967296) :
    Calls Try.prog 37 #[.int .u64 lo, .int .u64 hi, .int .u64 st] w fun e w' => e = .returned (.int .u64 (bt lo st (hi + 1))) ∧ w = w' := by
  have hst : ((st : Int) == 1) = false := by simp; omega
  go_enter Try.func37, Try.ntmps37
  go_wp2
  go_loop [7, 8] (fun b i => ∃ n : Nat, i = .int .u64 n ∧ b = .int .u64 (bt lo st n) ∧ Reach lo st hi n) (fun _ i => (hi + 1) - (intOf i).toNat)
  case atStart => exact ⟨lo, rfl, by rw [bt_lo], reach_lo lo st hi⟩
  case round =>
    obtain ⟨n, rfl, rfl, hR⟩ := hrel
    by_cases hlt : n ≤ hi
    · go_wp2
      go_round
      case rel => exact ⟨n + st, by go_num, by rw [or_step lo st n (by omega), (reach_next hR hlt (by omega)).2]; rfl, (reach_next hR hlt (by omega)).1⟩
      case measure => simp [intOf]; omega
    · go_wp2
      go_ret
      exact ⟨by rw [← reach_end hR hlt (by omega)]; rfl, rfl⟩
theorem max_u64 : IntKind.u64.max = ((18446744073709551615 : Nat) : Int) := by decide
theorem shl_max (n : Nat) : IntKind.u64.wrap (18446744073709551615 * (2 : Int) ^ n) = ((18446744073709551615 * 2 ^ n % 18446744073709551616 : Nat) : Int) := by
  rw [IntKind.wrap_u64]
  have e : (18446744073709551615 * (2 : Int) ^ n) = ((18446744073709551615 * 2 ^ n : Nat) : Int) := by simp
  rw [e]; omega
theorem one_int (lo hi : Nat) (h2 : lo ≤ 63) (h4 : hi ≤ 63) :
    bits BinOp.and IntKind.u64 (bits BinOp.xor IntKind.u64 IntKind.u64.max (IntKind.u64.wrap (18446744073709551615 * (2 : Int) ^ ((hi : Int) + 1).toNat))) (IntKind.u64.wrap (18446744073709551615 * (2 : Int) ^ ((lo : Int)).toNat)) = bt lo 1 (hi + 1) := by
  have e1 : ((hi : Int) + 1).toNat = hi + 1 := by omega
  have e2 : ((lo : Int)).toNat = lo := by omega
  rw [e1, e2, shl_max, shl_max, max_u64, bits_xor_u64_nat _ _ (by decide) (Nat.mod_lt _ (by decide)), bits_and_u64_nat _ _ ?_ (Nat.mod_lt _ (by decide))]
  · unfold bt
    rw [← one_ok lo hi (by omega) (by omega)]
  · exact Nat.xor_lt_two_pow (n := 64) (by decide) (Nat.mod_lt _ (by decide))
set_option maxHeartbeats 400000 in
theorem getBits_one (lo hi : Nat) (w : World) (h2 : lo ≤ 63) (h4 : hi ≤ 63) :
    Calls Try.prog 37 #[.int .u64 lo, .int .u64 hi, .int .u64 1] w fun e w' => e = .returned (.int .u64 (bt lo 1 (hi + 1))) ∧ w = w' := by
  have H := one_int lo hi h2 h4
  have HH := Lib.hid H
  clear H
  go_enter Try.func37, Try.ntmps37
  go_wp2
  go_ret
  refine ⟨?_, rfl⟩
  rw [← HH.out]
  rfl
theorem getBits_any (lo hi st : Nat) (w : World) (h2 : lo ≤ 63) (h4 : hi ≤ 63) (h5 : 1 ≤ st) (h6 : st ≤ 4294967296) :
    Calls Try.prog 37 #[.int .u64 lo, .int .u64 hi, .int .u64 st] w fun e w' => e = .returned (.int .u64 (bt lo st (hi + 1))) ∧ w = w' := by
  by_cases h : st = 1
  · subst h; exact getBits_one lo hi w h2 h4
  · exact getBits_more lo hi st w h2 h4 (by omega) h6
set_option maxHeartbeats 400000 in
theorem CronBits_any (lo hi st : Nat) (w : World) (h2 : lo ≤ 63) (h4 : hi ≤ 63) (h5 : 1 ≤ st) (h6 : st ≤ 4294967296) :
    Calls Try.prog 9 #[.int .u64 lo, .int .u64 hi, .int .u64 st] w fun e w' => e = .returned (.int .u64 (bt lo st (hi + 1))) ∧ w = w' := by
  go_enter Try.func9, Try.ntmps9
  go_wp2_with (first | (go_at_call 37; refine (getBits_any lo hi st _ h2 h4 h5 h6).mono ?_; rintro e w' ⟨rfl, rfl⟩) | go_in)
  go_ret
  exact ⟨rfl, rfl⟩

set_option maxHeartbeats 400000 in
theorem law_in (lo hi st : Nat) (w : World) (h2 : lo ≤ 63) (h4 : hi ≤ 63) (h5 : 1 ≤ st) (h6 : st ≤ 4294967296) :
    Calls Try.prog 3 #[.int .u64 lo, .int .u64 hi, .int .u64 st] w fun e w' => e = .returned (.bool true) ∧ w = w' := by
  have hs0 : ((st : Int) == 0) = false := by simp; omega
  go_enter Try.func3, Try.ntmps3
  go_wp2
  go_loop [7, 8] (fun b i => ∃ n : Nat, i = .int .u64 n ∧ b = .int .u64 (bt lo st n) ∧ lo ≤ n ∧ (n ≤ hi + 1 ∨ n = lo)) (fun _ i => (hi + 1) - (intOf i).toNat)
  case atStart => exact ⟨lo, rfl, by rw [bt_lo], Nat.le_refl _, Or.inr rfl⟩
  case round =>
    obtain ⟨n, rfl, rfl, hl, hR⟩ := hrel
    by_cases hlt : n ≤ hi
    · have hsub : ((n : Int) - (lo : Int)) % (st : Int) = (((n - lo) % st : Nat) : Int) := by
        rw [← Int.natCast_sub hl]; simp
      by_cases hm : (n - lo) % st = 0
      · have hp : bt lo st (n + 1) = ((orTo (pick lo st) n ||| 2 ^ n : Nat) : Int) := by
          unfold bt; rw [orTo_succ, if_pos (by simp [pick, hl, hm])]
        have HP := Lib.hid hp
        clear hp
        have HO := Lib.hid hR
        clear hR
        have hz : (((n : Int) - (lo : Int)) % (st : Int) == 0) = true := by rw [hsub, hm]; rfl
        clear hsub hm
        go_wp2
        go_round
        case rel => exact ⟨n + 1, by go_num, by rw [or_step lo st n (by omega), HP.out], by omega, Or.inl (by omega)⟩
        case measure => simp [intOf]; omega
      · have hp : bt lo st (n + 1) = bt lo st n := by
          unfold bt; rw [orTo_succ, if_neg (by simp [pick, hm])]
        have HP := Lib.hid hp
        clear hp
        have HO := Lib.hid hR
        clear hR
        have hz : (((n : Int) - (lo : Int)) % (st : Int) == 0) = false := by
          rw [hsub]; simp only [beq_eq_false_iff_ne]; omega
        clear hsub hm
        go_wp2
        go_round
        case rel => exact ⟨n + 1, by go_num, by rw [HP.out], by omega, Or.inl (by omega)⟩
        case measure => simp [intOf]; omega
    · have hend : bt lo st n = bt lo st (hi + 1) := by
        rcases hR with h | h
        · obtain rfl : n = hi + 1 := by omega
          rfl
        · subst h
          rw [bt_lo]; unfold bt; rw [orTo_above n st hi (by omega)]; rfl
      have HE := Lib.hid hend
      clear hend
      have HO := Lib.hid hR
      clear hR
      go_wp2_with (first | (go_at_call 9; refine (CronBits_any lo hi st _ h2 h4 h5 h6).mono ?_; rintro e w' ⟨rfl, rfl⟩))
      go_ret
      refine ⟨?_, rfl⟩
      show Ending.returned (.bool (bt lo st (hi + 1) == bt lo st n)) = _
      rw [HE.out]; simp

theorem law_walk (a b c : Int) (w : World) (wa : (Lit.int .u64 a).wf = true) (wb : (Lit.int .u64 b).wf = true) (wc : (Lit.int .u64 c).wf = true) :
    Calls Try.prog 3 #[.int .u64 a, .int .u64 b, .int .u64 c] w fun e w' => e = .returned (.bool true) ∧ Below w.heap.size w w' := by
  have ra : 0 ≤ a ∧ a ≤ 18446744073709551615 := by simpa [Lit.wf, IntKind.min, IntKind.max, IntKind.bits, IntKind.signed] using wa
  have rb : 0 ≤ b ∧ b ≤ 18446744073709551615 := by simpa [Lit.wf, IntKind.min, IntKind.max, IntKind.bits, IntKind.signed] using wb
  have rc : 0 ≤ c ∧ c ≤ 18446744073709551615 := by simpa [Lit.wf, IntKind.min, IntKind.max, IntKind.bits, IntKind.signed] using wc
  clear wa wb wc
  obtain ⟨lo, rfl⟩ := Int.eq_ofNat_of_zero_le ra.1
  obtain ⟨hi, rfl⟩ := Int.eq_ofNat_of_zero_le rb.1
  obtain ⟨st, rfl⟩ := Int.eq_ofNat_of_zero_le rc.1
  by_cases h1 : lo ≤ 63
  · by_cases h2 : hi ≤ 63
    · by_cases h3 : 1 ≤ st
      · by_cases h4 : st ≤ 4294967296
        · exact (law_in lo hi st w h1 h2 h3 h4).mono fun e w' ⟨he, hw⟩ => ⟨he, hw ▸ Below.refl _ _⟩
        · go_enter Try.func3, Try.ntmps3
          go_wp2
          go_ret
          exact ⟨rfl, Below.refl _ _⟩
      · go_enter Try.func3, Try.ntmps3
        go_wp2
        go_ret
        exact ⟨rfl, Below.refl _ _⟩
    · go_enter Try.func3, Try.ntmps3
      go_wp2
      go_ret
      exact ⟨rfl, Below.refl _ _⟩
  · go_enter Try.func3, Try.ntmps3
    go_wp2
    go_ret
    exact ⟨rfl, Below.refl _ _⟩
end Go.Proofs.Ytcmifkepleedmaa
namespace Go.Proofs.Ytcmifkepleedmaa.fnCronBits
open Go.ChangeShapes Go.WideShapes Go.ChangeAt Go.RowKit
theorem own : ownKnob Try.prog.godebug = none := by kernel_rfl
set_option maxRecDepth 100000 in
theorem lifted (os : Os) (started : os.Started) (H : Type) (enc : TypeId × Value → H) :
    ReturnsInHanded {} Try.checked os 3 .any (Rows.fnCronBitsSpec.pre6 enc Try.prog Try.f3 Rows.fnCronBitsRow.domain false) (Rows.fnCronBitsSpec.post enc Try.prog Try.f3 false true false false) := by
  refine returnsInHanded_of_change_sized (C := Try.checked) own started (by kernel_rfl) Try.func3
    (ChangeSpec.witness6 (enc := enc) (C := Try.checked) false ⟨#[], #[.int .u64 0, .int .u64 0, .int .u64 0], []⟩ 8 (by kernel_rfl) (by kernel_rfl) (by kernel_rfl) (by kernel_rfl)) ?_
  intro W base args ds gs before hval0 hW hcnd hsz0 _
  have hval : ∀ (j : Nat) t v, Try.f3.params[j]? = some t → args[j]? = some v → Value.okWide Try.prog W .any base t v := hval0
  have hW' := hW
  obtain ⟨p, q, hA0, hV, rfl, hfz, hnd⟩ := hW
  have hA : DataW.TrodAll enc Try.prog W 0 (fun _ => true) true Try.f3.params.toList args.toList ds p := hA0
  rw [Try.params3] at hA hval
  obtain ⟨v0, vs0, d0, ds0, p0, q0, hargs, rfl, rfl, h0, r0⟩ := trodAll_cons hA
  obtain ⟨v1, vs1, d1, ds1, p1, q1, rfl, rfl, rfl, h1, r1⟩ := trodAll_cons r0
  obtain ⟨v2, vs2, d2, ds2, p2, q2, rfl, rfl, rfl, h2, r2⟩ := trodAll_cons r1
  obtain ⟨rfl, rfl, rfl⟩ := trodAll_nil r2
  obtain rfl : args = #[v0, v1, v2] := by cases args; simp_all
  obtain ⟨rfl, rfl⟩ := trodVars_none hV
  obtain ⟨a0, rfl, rfl, rfl, w0⟩ := open_int Try.underlying22 (hval 0 22 v0 rfl rfl) h0
  obtain ⟨a1, rfl, rfl, rfl, w1⟩ := open_int Try.underlying22 (hval 1 22 v1 rfl rfl) h1
  obtain ⟨a2, rfl, rfl, rfl, w2⟩ := open_int Try.underlying22 (hval 2 22 v2 rfl rfl) h2
  refine (law_walk a0 a1 a2 W w0 w1 w2).mono fun e W' ⟨he, bel⟩ => ?_
  subst he
  exact ⟨_, rfl, _, _, _, [], _, [], hW', trodAll_mk1 (shut_bool Try.underlying4 _), (trodAll_cons_mk (shut_int Try.underlying22 w0) (trodAll_cons_mk (shut_int Try.underlying22 w1) (trodAll_cons_mk (shut_int Try.underlying22 w2) trodAll_mk0))), rfl, bel.frame _, fun h => by cases h⟩
theorem over : Rows.fnCronBitsRow.holds Try.pinned (OpenSpec.ofChange Rows.fnCronBitsSpec) :=
  OpenClaim.holds_of_wide 3 Try.f3 rfl rfl rfl rfl rfl rfl rfl ⟨rfl, rfl, rfl, rfl, rfl⟩ rfl rfl rfl rfl rfl (by kernel_rfl) Try.func3 (by kernel_rfl)
    (of_decide_eq_true (by kernel_rfl)) (by unfold Func.isWrapper; first | (rw [if_pos (by decide +kernel)]; kernel_rfl) | (rw [if_neg (by decide +kernel)]; exact ⟨rfl, rfl⟩))
    (fun os started H enc _ => lifted os started H enc)
theorem proved : Rows.FnCronBitsSaid := over
end Go.Proofs.Ytcmifkepleedmaa.fnCronBits
namespace Go.Proofs.Ytcmifkepleedmaa
/-- The row, under a short name, for the claim. -/
theorem fnCronBits_holds : Rows.FnCronBitsSaid := fnCronBits.proved
#print axioms fnCronBits_holds
end Go.Proofs.Ytcmifkepleedmaa
