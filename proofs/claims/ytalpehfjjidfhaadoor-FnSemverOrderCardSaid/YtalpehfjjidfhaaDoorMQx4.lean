-- Written by a program of this session (wip/tools/myprint.py over the kit's print).
import Derived.Test.YtalpehfjjidfhaaDoorMQx0
import Derived.Test.YtalpehfjjidfhaaDoorMQx1
import Derived.Test.YtalpehfjjidfhaaDoorMQx2
import Derived.Test.YtalpehfjjidfhaaDoorMQx3
namespace Go.Proofs.YtalpehfjjidfhaaDoor.MQ
open Go.RowKit Go.Proofs.YtalpehfjjidfhaaDoorW.PrintWords Go.Proofs.YtalpehfjjidfhaaDoorW.PrintLast Go.Proofs.YtalpehfjjidfhaaDoorW.PrintMore Go.Proofs.YtalpehfjjidfhaaDoor
attribute [local go_sem] max2_int min2_int max_two min_two max_three min_three max_four min_four   -- for this text's walks alone
set_option linter.unusedVariables false
set_option linter.unusedSimpArgs false

attribute [local go_sem high] eqA29
/-! ### laws_FnSemverOrder: function 5 -/
def laws_FnSemverOrder.j0 : Nat → Bool → Int → Int → Int → ByteArray → ByteArray → Int → Int → Int → ByteArray → ByteArray → Int → Int → Int → ByteArray → ByteArray → Option (Bool)
  | 0, _, _, _, _, _, _, _, _, _, _, _, _, _, _, _, _ => none
  | k + 1, x23, x143000, x143001, x143002, x143003, x143004, x144000, x144001, x144002, x144003, x144004, x145000, x145001, x145002, x145003, x145004 => if x23 = true then (some true) else ((laws_svGood.f k (([(⟨x143000, x143001, x143002, x143003, x143004⟩ : S29), (⟨x144000, x144001, x144002, x144003, x144004⟩ : S29), (⟨x145000, x145001, x145002, x145003, x145004⟩ : S29)] : List (S29)))).bind fun t151 => (if t151 = true then ((Hand.VersionCompare.f x143000 x143001 x143002 x143003 x143004 x144000 x144001 x144002 x144003 x144004).bind fun t152 => ((Hand.VersionCompare.f x144000 x144001 x144002 x144003 x144004 x145000 x145001 x145002 x145003 x145004).bind fun t153 => ((Hand.VersionCompare.f x143000 x143001 x143002 x143003 x143004 x145000 x145001 x145002 x145003 x145004).bind fun t154 => ((laws_svMeta.f x143000 x143001 x143002 x143003 x143004 (⟨#[]⟩ : ByteArray)).bind fun bt155 => ((laws_svMeta.f x144000 x144001 x144002 x144003 x144004 (⟨#[]⟩ : ByteArray)).bind fun bt160 => ((Hand.VersionCompare.f x144000 x144001 x144002 x144003 x144004 x143000 x143001 x143002 x143003 x143004).bind fun t165 => (if t165 = (wrap64 (-t152)) then (if ((t152 == 0) != (bt155.1 == bt160.1 && (bt155.2.1 == bt160.2.1 && (bt155.2.2.1 == bt160.2.2.1 && (bt155.2.2.2.1.toList == bt160.2.2.2.1.toList && (bt155.2.2.2.2.toList == bt160.2.2.2.2.toList)))))) = true then (some false) else (if t152 < (-1) then (some false) else (if t152 > 1 then (some false) else (if t152 > 0 then (some true) else (if t153 > 0 then (some true) else (if t154 ≤ 0 then (if t154 < 0 then (some true) else (if t152 = 0 then (some (t153 == 0)) else (some false))) else (some false))))))) else (some false)))))))) else (some true)))
def laws_FnSemverOrder.f (k : Nat) (a0_0 : Int) (a0_1 : Int) (a0_2 : Int) (a0_3 : ByteArray) (a0_4 : ByteArray) (a1_0 : Int) (a1_1 : Int) (a1_2 : Int) (a1_3 : ByteArray) (a1_4 : ByteArray) (a2_0 : Int) (a2_1 : Int) (a2_2 : Int) (a2_3 : ByteArray) (a2_4 : ByteArray) : Option (Bool) := (laws_zzFits14.f a0_0 a0_1 a0_2 a0_3 a0_4).bind fun t145 => (if t145 = true then ((laws_zzFits14.f a1_0 a1_1 a1_2 a1_3 a1_4).bind fun t146 => (if t146 = true then ((laws_zzFits14.f a2_0 a2_1 a2_2 a2_3 a2_4).bind fun t147 => (laws_FnSemverOrder.j0 k (!t147) a0_0 a0_1 a0_2 a0_3 a0_4 a1_0 a1_1 a1_2 a1_3 a1_4 a2_0 a2_1 a2_2 a2_3 a2_4)) else (laws_FnSemverOrder.j0 k true a0_0 a0_1 a0_2 a0_3 a0_4 a1_0 a1_1 a1_2 a1_3 a1_4 a2_0 a2_1 a2_2 a2_3 a2_4))) else (laws_FnSemverOrder.j0 k true a0_0 a0_1 a0_2 a0_3 a0_4 a1_0 a1_1 a1_2 a1_3 a1_4 a2_0 a2_1 a2_2 a2_3 a2_4))
theorem laws_FnSemverOrder.mono_l : ∀ k, (∀ y0 y1 y2 y3 y4 y5 y6 y7 y8 y9 y10 y11 y12 y13 y14 y15, LeO (laws_FnSemverOrder.j0 k y0 y1 y2 y3 y4 y5 y6 y7 y8 y9 y10 y11 y12 y13 y14 y15) (laws_FnSemverOrder.j0 (k + 1) y0 y1 y2 y3 y4 y5 y6 y7 y8 y9 y10 y11 y12 y13 y14 y15))
  | 0 => fun _ _ _ _ _ _ _ _ _ _ _ _ _ _ _ _ r h => by simp [laws_FnSemverOrder.j0] at h
  | k + 1 => by
    have ih0 := laws_FnSemverOrder.mono_l k
    · intro y0 y1 y2 y3 y4 y5 y6 y7 y8 y9 y10 y11 y12 y13 y14 y15
      unfold laws_FnSemverOrder.j0
      repeat' first
      | (with_reducible exact ih0 _ _ _ _ _ _ _ _ _ _ _ _ _ _ _ _)
      | (with_reducible exact laws_svGood.mono _ _)
      | (with_reducible exact LeO.refl _)
      | (with_reducible exact LeO.none _)
      | (with_reducible refine LeO.ite ?_ ?_)
      | (with_reducible refine LeO.bind ?_ (fun _ => ?_))
      | exact ih0 _ _ _ _ _ _ _ _ _ _ _ _ _ _ _ _
      | exact laws_svGood.mono _ _
      | exact LeO.none _
      | refine LeO.ite ?_ ?_
      | refine LeO.bind ?_ (fun _ => ?_)
theorem laws_FnSemverOrder.mono : ∀ a0 a1 a2 a3 a4 a5 a6 a7 a8 a9 a10 a11 a12 a13 a14 k, LeO (laws_FnSemverOrder.f k a0 a1 a2 a3 a4 a5 a6 a7 a8 a9 a10 a11 a12 a13 a14) (laws_FnSemverOrder.f (k + 1) a0 a1 a2 a3 a4 a5 a6 a7 a8 a9 a10 a11 a12 a13 a14) := by
  intro a0 a1 a2 a3 a4 a5 a6 a7 a8 a9 a10 a11 a12 a13 a14 k
  have ih0 := laws_FnSemverOrder.mono_l k
  unfold laws_FnSemverOrder.f
  repeat' first
      | (with_reducible exact ih0 _ _ _ _ _ _ _ _ _ _ _ _ _ _ _ _)
      | (with_reducible exact laws_svGood.mono _ _)
      | (with_reducible exact LeO.refl _)
      | (with_reducible exact LeO.none _)
      | (with_reducible refine LeO.ite ?_ ?_)
      | (with_reducible refine LeO.bind ?_ (fun _ => ?_))
      | exact ih0 _ _ _ _ _ _ _ _ _ _ _ _ _ _ _ _
      | exact laws_svGood.mono _ _
      | exact LeO.none _
      | refine LeO.ite ?_ ?_
      | refine LeO.bind ?_ (fun _ => ?_)
def laws_FnSemverOrder.T5 : Bool × List (List Nat × List Nat) := (true, [([], []), ([], []), ([0, 1], [0, 1]), ([], []), ([], []), ([3, 4, 2], [3, 4]), ([], []), ([], []), ([6, 7, 5], [6, 7]), ([2, 8, 0, 1, 2], [2]), ([5, 9, 0, 1, 2, 3, 4, 5, 9], [5]), ([8, 10, 0, 1, 2, 3, 4, 5, 6, 7, 8, 9, 10], [8])])
def laws_FnSemverOrder.B5 : List Nat := [0, 0, 3, 0, 0, 31, 0, 0, 255, 511, 1023, 2047]
theorem laws_FnSemverOrder.tab5 : rtab .any (opsOf Tryd.f5 5) = laws_FnSemverOrder.T5 := by kernel_rfl
theorem laws_FnSemverOrder.bits5 : waitsOk laws_FnSemverOrder.T5.2 laws_FnSemverOrder.B5 = true := by kernel_rfl
/-- What the comparison says wherever the three versions are good. -/
def Tame (a0_0 a0_1 a0_2 : Int) (a0_3 a0_4 : ByteArray) (a1_0 a1_1 a1_2 : Int) (a1_3 a1_4 : ByteArray) (a2_0 a2_1 a2_2 : Int) (a2_3 a2_4 : ByteArray) : Prop := ∀ (k : Nat) (t152 t153 t154 t155 t156 t157 : Int) (t158 t159 : ByteArray) (t160 t161 t162 : Int) (t163 t164 : ByteArray) (t165 : Int),
  laws_svGood.f k ([(⟨a0_0, a0_1, a0_2, a0_3, a0_4⟩ : S29), (⟨a1_0, a1_1, a1_2, a1_3, a1_4⟩ : S29), (⟨a2_0, a2_1, a2_2, a2_3, a2_4⟩ : S29)] : List (S29)) = some true → Hand.VersionCompare.f a0_0 a0_1 a0_2 a0_3 a0_4 a1_0 a1_1 a1_2 a1_3 a1_4 = some t152 → Hand.VersionCompare.f a1_0 a1_1 a1_2 a1_3 a1_4 a2_0 a2_1 a2_2 a2_3 a2_4 = some t153 → Hand.VersionCompare.f a0_0 a0_1 a0_2 a0_3 a0_4 a2_0 a2_1 a2_2 a2_3 a2_4 = some t154 →
  laws_svMeta.f a0_0 a0_1 a0_2 a0_3 a0_4 (⟨#[]⟩ : ByteArray) = some (t155, t156, t157, t158, t159) → laws_svMeta.f a1_0 a1_1 a1_2 a1_3 a1_4 (⟨#[]⟩ : ByteArray) = some (t160, t161, t162, t163, t164) → Hand.VersionCompare.f a1_0 a1_1 a1_2 a1_3 a1_4 a0_0 a0_1 a0_2 a0_3 a0_4 = some t165 →
  t165 = wrap64 (-t152) ∧ ¬ ((t152 == 0) != (t155 == t160 && (t156 == t161 && (t157 == t162 && (t158.toList == t163.toList && (t159.toList == t164.toList)))))) = true ∧ ¬ t152 < (-1) ∧ ¬ t152 > 1 ∧ (¬ 0 < t152 → ¬ 0 < t153 → t154 ≤ 0 ∧ (¬ t154 < 0 → t152 = 0))
set_option maxHeartbeats 8000000 in
set_option maxRecDepth 100000 in
theorem laws_FnSemverOrder.calls (k : Nat) (a0_0 : Int) (a0_1 : Int) (a0_2 : Int) (a0_3 : ByteArray) (a0_4 : ByteArray) (a1_0 : Int) (a1_1 : Int) (a1_2 : Int) (a1_3 : ByteArray) (a1_4 : ByteArray) (a2_0 : Int) (a2_1 : Int) (a2_2 : Int) (a2_3 : ByteArray) (a2_4 : ByteArray) (r : Bool) (w : World) (hG0 : Hand.Gl w) (hP : Tame a0_0 a0_1 a0_2 a0_3 a0_4 a1_0 a1_1 a1_2 a1_3 a1_4 a2_0 a2_1 a2_2 a2_3 a2_4) (h : laws_FnSemverOrder.f k a0_0 a0_1 a0_2 a0_3 a0_4 a1_0 a1_1 a1_2 a1_3 a1_4 a2_0 a2_1 a2_2 a2_3 a2_4 = some r) :
    Calls Tryd.prog 5 #[.agg #[.int .u64 a0_0, .int .u64 a0_1, .int .u64 a0_2, .string a0_3, .string a0_4], .agg #[.int .u64 a1_0, .int .u64 a1_1, .int .u64 a1_2, .string a1_3, .string a1_4], .agg #[.int .u64 a2_0, .int .u64 a2_1, .int .u64 a2_2, .string a2_3, .string a2_4]] w fun e w' => e = .returned (.bool r) ∧ Below w.heap.size w w' := by
  have HG := Aside0.mk hG0
  clear hG0
  have HPW := Aside0.mk hP
  clear hP
  have hu29 := Tryd.underlying29
  have HB := Aside0.mk (Below.refl w.heap.size w)
  have H : ((laws_zzFits14.f a0_0 a0_1 a0_2 a0_3 a0_4).bind fun t145 => (if t145 = true then ((laws_zzFits14.f a1_0 a1_1 a1_2 a1_3 a1_4).bind fun t146 => (if t146 = true then ((laws_zzFits14.f a2_0 a2_1 a2_2 a2_3 a2_4).bind fun t147 => (laws_FnSemverOrder.j0 k (!t147) a0_0 a0_1 a0_2 a0_3 a0_4 a1_0 a1_1 a1_2 a1_3 a1_4 a2_0 a2_1 a2_2 a2_3 a2_4)) else (laws_FnSemverOrder.j0 k true a0_0 a0_1 a0_2 a0_3 a0_4 a1_0 a1_1 a1_2 a1_3 a1_4 a2_0 a2_1 a2_2 a2_3 a2_4))) else (laws_FnSemverOrder.j0 k true a0_0 a0_1 a0_2 a0_3 a0_4 a1_0 a1_1 a1_2 a1_3 a1_4 a2_0 a2_1 a2_2 a2_3 a2_4))) = some r := h
  clear h
  have HC4 := Aside0.mk H
  clear H
  go_enter Tryd.func5, Tryd.ntmps5
  go_upto_region 1 with (first | ((with_reducible refine gate_dst (N := 3) rfl ?_); refine box_event ?hg (N := 3) ?hd (cs := #[.int .u64 a0_0, .int .u64 a0_1, .int .u64 a0_2, .string a0_3, .string a0_4]) (t := 29) ?hr ?_; (case hd => rfl); (case hg => rfl); (case hr => first | (go_simp; done) | (go_simp; rfl)); intro gb142 hg w5 hbox hb; have n0_ := Aside0.mk (below_step (by repeat (first | (with_reducible first | exact HB.out | apply below_alloc | apply pw_below_drewN | apply below_drew1) | exact HB.out)) hb); have n1_ := Aside0.mk (hbox); have n2_ := Aside0.mk ((by rw [hg]; exact (below_size (by repeat (first | (with_reducible first | exact HB.out | apply below_alloc | apply pw_below_drewN | apply below_drew1) | exact HB.out))) : w.heap.size ≤ gb142)); have n3_ := Aside0.mk ((by rw [hg]; exact (below_size (by repeat (first | (with_reducible first | exact HB.out | apply below_alloc | apply pw_below_drewN | apply below_drew1) | exact HB.out))) : w.heap.size ≤ gb142)); clear HB; have HB := n0_; have BK142 := n1_; have GW142 := n2_; have GE142 := n3_; clear n0_ n1_ n2_ n3_; clear hb hbox hg) | ((with_reducible refine gate_dst (N := 4) rfl ?_); refine box_event ?hg (N := 4) ?hd (cs := #[.int .u64 a1_0, .int .u64 a1_1, .int .u64 a1_2, .string a1_3, .string a1_4]) (t := 29) ?hr ?_; (case hd => rfl); (case hg => rfl); (case hr => first | (go_simp; done) | (go_simp; rfl)); intro gb143 hg w6 hbox hb; have n0_ := Aside0.mk (blk_below (g := gb142) (o := .cells #[.int .u64 a0_0, .int .u64 a0_1, .int .u64 a0_2, .string a0_3, .string a0_4] 29 (0, 0)) (by (with_reducible repeat (first | refine blk_drewN ?_ _ | refine blk_drew ?_ | refine blk_alloc ?_ _)); exact BK142.out) hb); have n1_ := Aside0.mk (below_step (by repeat (first | (with_reducible first | exact HB.out | apply below_alloc | apply pw_below_drewN | apply below_drew1 | refine below_set ?_ GE142.out) | exact HB.out)) hb); have n2_ := Aside0.mk (hbox); have n3_ := Aside0.mk ((by rw [hg]; exact (below_size (by repeat (first | (with_reducible first | exact HB.out | apply below_alloc | apply pw_below_drewN | apply below_drew1 | refine below_set ?_ GE142.out) | exact HB.out))) : w.heap.size ≤ gb143)); have n4_ := Aside0.mk ((by rw [hg]; exact (below_size (by repeat (first | (with_reducible first | exact HB.out | apply below_alloc | apply pw_below_drewN | apply below_drew1 | refine below_set ?_ GE142.out) | exact HB.out))) : w.heap.size ≤ gb143)); have n5_ := Aside0.mk ((by rw [hg]; exact Nat.ne_of_lt (blk_lt (g := gb142) (o := .cells #[.int .u64 a0_0, .int .u64 a0_1, .int .u64 a0_2, .string a0_3, .string a0_4] 29 (0, 0)) (by (with_reducible repeat (first | refine blk_drewN ?_ _ | refine blk_drew ?_ | refine blk_alloc ?_ _)); exact BK142.out)) : gb142 ≠ gb143)); have n6_ := Aside0.mk ((by rw [hg]; exact Nat.ne_of_gt (blk_lt (g := gb142) (o := .cells #[.int .u64 a0_0, .int .u64 a0_1, .int .u64 a0_2, .string a0_3, .string a0_4] 29 (0, 0)) (by (with_reducible repeat (first | refine blk_drewN ?_ _ | refine blk_drew ?_ | refine blk_alloc ?_ _)); exact BK142.out)) : gb143 ≠ gb142)); clear BK142; clear HB; have BK142 := n0_; have HB := n1_; have BK143 := n2_; have GW143 := n3_; have GE143 := n4_; have NB142_143 := n5_; have NB143_142 := n6_; clear n0_ n1_ n2_ n3_ n4_ n5_ n6_; clear hb hbox hg) | ((with_reducible refine gate_dst (N := 5) rfl ?_); refine box_event ?hg (N := 5) ?hd (cs := #[.int .u64 a2_0, .int .u64 a2_1, .int .u64 a2_2, .string a2_3, .string a2_4]) (t := 29) ?hr ?_; (case hd => rfl); (case hg => rfl); (case hr => first | (go_simp; done) | (go_simp; rfl)); intro gb144 hg w7 hbox hb; have n0_ := Aside0.mk (blk_below (g := gb142) (o := .cells #[.int .u64 a0_0, .int .u64 a0_1, .int .u64 a0_2, .string a0_3, .string a0_4] 29 (0, 0)) (by (with_reducible repeat (first | refine blk_drewN ?_ _ | refine blk_drew ?_ | refine blk_alloc ?_ _)); exact BK142.out) hb); have n1_ := Aside0.mk (blk_below (g := gb143) (o := .cells #[.int .u64 a1_0, .int .u64 a1_1, .int .u64 a1_2, .string a1_3, .string a1_4] 29 (0, 0)) (by (with_reducible repeat (first | refine blk_drewN ?_ _ | refine blk_drew ?_ | refine blk_alloc ?_ _)); exact BK143.out) hb); have n2_ := Aside0.mk (below_step (by repeat (first | (with_reducible first | exact HB.out | apply below_alloc | apply pw_below_drewN | apply below_drew1 | refine below_set ?_ GE142.out | refine below_set ?_ GE143.out) | exact HB.out)) hb); have n3_ := Aside0.mk (hbox); have n4_ := Aside0.mk ((by rw [hg]; exact (below_size (by repeat (first | (with_reducible first | exact HB.out | apply below_alloc | apply pw_below_drewN | apply below_drew1 | refine below_set ?_ GE142.out | refine below_set ?_ GE143.out) | exact HB.out))) : w.heap.size ≤ gb144)); have n5_ := Aside0.mk ((by rw [hg]; exact (below_size (by repeat (first | (with_reducible first | exact HB.out | apply below_alloc | apply pw_below_drewN | apply below_drew1 | refine below_set ?_ GE142.out | refine below_set ?_ GE143.out) | exact HB.out))) : w.heap.size ≤ gb144)); have n6_ := Aside0.mk ((by rw [hg]; exact Nat.ne_of_lt (blk_lt (g := gb142) (o := .cells #[.int .u64 a0_0, .int .u64 a0_1, .int .u64 a0_2, .string a0_3, .string a0_4] 29 (0, 0)) (by (with_reducible repeat (first | refine blk_drewN ?_ _ | refine blk_drew ?_ | refine blk_alloc ?_ _)); exact BK142.out)) : gb142 ≠ gb144)); have n7_ := Aside0.mk ((by rw [hg]; exact Nat.ne_of_gt (blk_lt (g := gb142) (o := .cells #[.int .u64 a0_0, .int .u64 a0_1, .int .u64 a0_2, .string a0_3, .string a0_4] 29 (0, 0)) (by (with_reducible repeat (first | refine blk_drewN ?_ _ | refine blk_drew ?_ | refine blk_alloc ?_ _)); exact BK142.out)) : gb144 ≠ gb142)); have n8_ := Aside0.mk ((by rw [hg]; exact Nat.ne_of_lt (blk_lt (g := gb143) (o := .cells #[.int .u64 a1_0, .int .u64 a1_1, .int .u64 a1_2, .string a1_3, .string a1_4] 29 (0, 0)) (by (with_reducible repeat (first | refine blk_drewN ?_ _ | refine blk_drew ?_ | refine blk_alloc ?_ _)); exact BK143.out)) : gb143 ≠ gb144)); have n9_ := Aside0.mk ((by rw [hg]; exact Nat.ne_of_gt (blk_lt (g := gb143) (o := .cells #[.int .u64 a1_0, .int .u64 a1_1, .int .u64 a1_2, .string a1_3, .string a1_4] 29 (0, 0)) (by (with_reducible repeat (first | refine blk_drewN ?_ _ | refine blk_drew ?_ | refine blk_alloc ?_ _)); exact BK143.out)) : gb144 ≠ gb143)); clear BK142; clear BK143; clear HB; have BK142 := n0_; have BK143 := n1_; have HB := n2_; have BK144 := n3_; have GW144 := n4_; have GE144 := n5_; have NB142_144 := n6_; have NB144_142 := n7_; have NB143_144 := n8_; have NB144_143 := n9_; clear n0_ n1_ n2_ n3_ n4_ n5_ n6_ n7_ n8_ n9_; clear hb hbox hg))
  (try simp only [Act.put, List.setIfInBounds_toArray, List.set_cons_zero, List.set_cons_succ])
  go_cut [23] (fun v23 wc => ∃ (kq : Nat) (x23_3 : Bool), v23 = .bool x23_3 ∧ Aside0 (laws_FnSemverOrder.j0 kq x23_3 a0_0 a0_1 a0_2 a0_3 a0_4 a1_0 a1_1 a1_2 a1_3 a1_4 a2_0 a2_1 a2_2 a2_3 a2_4 = some r) ∧ Aside0 (kq ≤ k) ∧ Aside0 (wc.heap[gb142]? = some (.cells #[.int .u64 a0_0, .int .u64 a0_1, .int .u64 a0_2, .string a0_3, .string a0_4] 29 (0, 0))) ∧ Aside0 (wc.heap[gb143]? = some (.cells #[.int .u64 a1_0, .int .u64 a1_1, .int .u64 a1_2, .string a1_3, .string a1_4] 29 (0, 0))) ∧ Aside0 (wc.heap[gb144]? = some (.cells #[.int .u64 a2_0, .int .u64 a2_1, .int .u64 a2_2, .string a2_3, .string a2_4] 29 (0, 0))) ∧ Aside0 (Below w.heap.size w wc))
  case first =>
    have H := HC4.out
    clear HC4
    replace H := Option.bind_eq_some_iff.mp H
    obtain ⟨t145, A80, H⟩ := H
    replace H : (if t145 = true then ((laws_zzFits14.f a1_0 a1_1 a1_2 a1_3 a1_4).bind fun t146 => (if t146 = true then ((laws_zzFits14.f a2_0 a2_1 a2_2 a2_3 a2_4).bind fun t147 => (laws_FnSemverOrder.j0 k (!t147) a0_0 a0_1 a0_2 a0_3 a0_4 a1_0 a1_1 a1_2 a1_3 a1_4 a2_0 a2_1 a2_2 a2_3 a2_4)) else (laws_FnSemverOrder.j0 k true a0_0 a0_1 a0_2 a0_3 a0_4 a1_0 a1_1 a1_2 a1_3 a1_4 a2_0 a2_1 a2_2 a2_3 a2_4))) else (laws_FnSemverOrder.j0 k true a0_0 a0_1 a0_2 a0_3 a0_4 a1_0 a1_1 a1_2 a1_3 a1_4 a2_0 a2_1 a2_2 a2_3 a2_4)) = some r := H
    have A8 := Aside0.mk A80
    clear A80
    by_cases c9 : t145 = true
    · subst c9
      have H1 : ((laws_zzFits14.f a1_0 a1_1 a1_2 a1_3 a1_4).bind fun t146 => (if t146 = true then ((laws_zzFits14.f a2_0 a2_1 a2_2 a2_3 a2_4).bind fun t147 => (laws_FnSemverOrder.j0 k (!t147) a0_0 a0_1 a0_2 a0_3 a0_4 a1_0 a1_1 a1_2 a1_3 a1_4 a2_0 a2_1 a2_2 a2_3 a2_4)) else (laws_FnSemverOrder.j0 k true a0_0 a0_1 a0_2 a0_3 a0_4 a1_0 a1_1 a1_2 a1_3 a1_4 a2_0 a2_1 a2_2 a2_3 a2_4))) = some r := by rw [if_pos rfl] at H; exact H
      clear H
      have H := H1
      clear H1
      replace H := Option.bind_eq_some_iff.mp H
      obtain ⟨t146, A100, H⟩ := H
      replace H : (if t146 = true then ((laws_zzFits14.f a2_0 a2_1 a2_2 a2_3 a2_4).bind fun t147 => (laws_FnSemverOrder.j0 k (!t147) a0_0 a0_1 a0_2 a0_3 a0_4 a1_0 a1_1 a1_2 a1_3 a1_4 a2_0 a2_1 a2_2 a2_3 a2_4)) else (laws_FnSemverOrder.j0 k true a0_0 a0_1 a0_2 a0_3 a0_4 a1_0 a1_1 a1_2 a1_3 a1_4 a2_0 a2_1 a2_2 a2_3 a2_4)) = some r := H
      have A10 := Aside0.mk A100
      clear A100
      by_cases c11 : t146 = true
      · subst c11
        have H1 : ((laws_zzFits14.f a2_0 a2_1 a2_2 a2_3 a2_4).bind fun t147 => (laws_FnSemverOrder.j0 k (!t147) a0_0 a0_1 a0_2 a0_3 a0_4 a1_0 a1_1 a1_2 a1_3 a1_4 a2_0 a2_1 a2_2 a2_3 a2_4)) = some r := by rw [if_pos rfl] at H; exact H
        clear H
        have H := H1
        clear H1
        replace H := Option.bind_eq_some_iff.mp H
        obtain ⟨t147, A120, H⟩ := H
        replace H : (laws_FnSemverOrder.j0 k (!t147) a0_0 a0_1 a0_2 a0_3 a0_4 a1_0 a1_1 a1_2 a1_3 a1_4 a2_0 a2_1 a2_2 a2_3 a2_4) = some r := H
        have A12 := Aside0.mk A120
        clear A120
        have H' := Aside0.mk H
        clear H
        have hnb13 := NB142_143.out
        have hnc13 := NB143_142.out
        have hnb14 := NB142_144.out
        have hnc14 := NB144_142.out
        have hcz15_0 : w7.cell? ⟨gb142, 0, none⟩ = some (.int .u64 a0_0) := (blk_cell BK142.out 0).trans rfl
        have hcz15_1 : w7.cell? ⟨gb142, 1, none⟩ = some (.int .u64 a0_1) := (blk_cell BK142.out 1).trans rfl
        have hcz15_2 : w7.cell? ⟨gb142, 2, none⟩ = some (.int .u64 a0_2) := (blk_cell BK142.out 2).trans rfl
        have hcz15_3 : w7.cell? ⟨gb142, 3, none⟩ = some (.string a0_3) := (blk_cell BK142.out 3).trans rfl
        have hcz15_4 : w7.cell? ⟨gb142, 4, none⟩ = some (.string a0_4) := (blk_cell BK142.out 4).trans rfl
        have hfz15_0 := blk_frozen BK142.out 0
        have hfz15_1 := blk_frozen BK142.out 1
        have hfz15_2 := blk_frozen BK142.out 2
        have hfz15_3 := blk_frozen BK142.out 3
        have hfz15_4 := blk_frozen BK142.out 4
        go_wp2_with (first | ((with_reducible refine gate_callee (f := 25) rfl ?_); refine goesL_ (some 12) rfl rfl Tryd.func25 (by kernel_rfl) rfl #[.agg #[.int .u64 a0_0, .int .u64 a0_1, .int .u64 a0_2, .string a0_3, .string a0_4]] rfl (by (try simp only [List.map_toArray, List.map_cons, List.map_nil]); first | done | rfl | (simp only [List.length_drop, List.length_take]; rfl)) ?_; (with_reducible refine (laws_zzFits14.calls a0_0 a0_1 a0_2 a0_3 a0_4 true _ A8.out).mono ?_); rintro e w16 ⟨rfl, hb⟩; refine ⟨_, rfl, ?_⟩; have n0_ := Aside0.mk (blk_below (g := gb142) (o := .cells #[.int .u64 a0_0, .int .u64 a0_1, .int .u64 a0_2, .string a0_3, .string a0_4] 29 (0, 0)) (by (with_reducible repeat (first | refine blk_drewN ?_ _ | refine blk_drew ?_ | refine blk_alloc ?_ _)); exact BK142.out) hb); have n1_ := Aside0.mk (blk_below (g := gb143) (o := .cells #[.int .u64 a1_0, .int .u64 a1_1, .int .u64 a1_2, .string a1_3, .string a1_4] 29 (0, 0)) (by (with_reducible repeat (first | refine blk_drewN ?_ _ | refine blk_drew ?_ | refine blk_alloc ?_ _)); exact BK143.out) hb); have n2_ := Aside0.mk (blk_below (g := gb144) (o := .cells #[.int .u64 a2_0, .int .u64 a2_1, .int .u64 a2_2, .string a2_3, .string a2_4] 29 (0, 0)) (by (with_reducible repeat (first | refine blk_drewN ?_ _ | refine blk_drew ?_ | refine blk_alloc ?_ _)); exact BK144.out) hb); have n3_ := Aside0.mk (below_step (by repeat (first | (with_reducible first | exact HB.out | apply below_alloc | apply pw_below_drewN | apply below_drew1 | refine below_set ?_ GE142.out | refine below_set ?_ GE143.out | refine below_set ?_ GE144.out) | exact HB.out)) hb); clear BK142; clear BK143; clear BK144; clear HB; have BK142 := n0_; have BK143 := n1_; have BK144 := n2_; have HB := n3_; clear n0_ n1_ n2_ n3_; (try clear hb); (try clear hb2); (try clear hk); (try clear hi); have hnb17 := NB143_144.out; have hnc17 := NB144_143.out; have hcz18_0 : w16.cell? ⟨gb143, 0, none⟩ = some (.int .u64 a1_0) := (blk_cell BK143.out 0).trans rfl; have hcz18_1 : w16.cell? ⟨gb143, 1, none⟩ = some (.int .u64 a1_1) := (blk_cell BK143.out 1).trans rfl; have hcz18_2 : w16.cell? ⟨gb143, 2, none⟩ = some (.int .u64 a1_2) := (blk_cell BK143.out 2).trans rfl; have hcz18_3 : w16.cell? ⟨gb143, 3, none⟩ = some (.string a1_3) := (blk_cell BK143.out 3).trans rfl; have hcz18_4 : w16.cell? ⟨gb143, 4, none⟩ = some (.string a1_4) := (blk_cell BK143.out 4).trans rfl; have hfz18_0 := blk_frozen BK143.out 0; have hfz18_1 := blk_frozen BK143.out 1; have hfz18_2 := blk_frozen BK143.out 2; have hfz18_3 := blk_frozen BK143.out 3; have hfz18_4 := blk_frozen BK143.out 4) | (go_at_call 25; (with_reducible refine (laws_zzFits14.calls a1_0 a1_1 a1_2 a1_3 a1_4 true _ A10.out).mono ?_); rintro e w19 ⟨rfl, hb⟩; have n0_ := Aside0.mk (blk_below (g := gb142) (o := .cells #[.int .u64 a0_0, .int .u64 a0_1, .int .u64 a0_2, .string a0_3, .string a0_4] 29 (0, 0)) (by (with_reducible repeat (first | refine blk_drewN ?_ _ | refine blk_drew ?_ | refine blk_alloc ?_ _)); exact BK142.out) hb); have n1_ := Aside0.mk (blk_below (g := gb143) (o := .cells #[.int .u64 a1_0, .int .u64 a1_1, .int .u64 a1_2, .string a1_3, .string a1_4] 29 (0, 0)) (by (with_reducible repeat (first | refine blk_drewN ?_ _ | refine blk_drew ?_ | refine blk_alloc ?_ _)); exact BK143.out) hb); have n2_ := Aside0.mk (blk_below (g := gb144) (o := .cells #[.int .u64 a2_0, .int .u64 a2_1, .int .u64 a2_2, .string a2_3, .string a2_4] 29 (0, 0)) (by (with_reducible repeat (first | refine blk_drewN ?_ _ | refine blk_drew ?_ | refine blk_alloc ?_ _)); exact BK144.out) hb); have n3_ := Aside0.mk (below_step (by repeat (first | (with_reducible first | exact HB.out | apply below_alloc | apply pw_below_drewN | apply below_drew1 | refine below_set ?_ GE142.out | refine below_set ?_ GE143.out | refine below_set ?_ GE144.out) | exact HB.out)) hb); clear BK142; clear BK143; clear BK144; clear HB; have BK142 := n0_; have BK143 := n1_; have BK144 := n2_; have HB := n3_; clear n0_ n1_ n2_ n3_; (try clear hb); (try clear hb2); (try clear hk); (try clear hi); have hcz20_0 : w19.cell? ⟨gb144, 0, none⟩ = some (.int .u64 a2_0) := (blk_cell BK144.out 0).trans rfl; have hcz20_1 : w19.cell? ⟨gb144, 1, none⟩ = some (.int .u64 a2_1) := (blk_cell BK144.out 1).trans rfl; have hcz20_2 : w19.cell? ⟨gb144, 2, none⟩ = some (.int .u64 a2_2) := (blk_cell BK144.out 2).trans rfl; have hcz20_3 : w19.cell? ⟨gb144, 3, none⟩ = some (.string a2_3) := (blk_cell BK144.out 3).trans rfl; have hcz20_4 : w19.cell? ⟨gb144, 4, none⟩ = some (.string a2_4) := (blk_cell BK144.out 4).trans rfl; have hfz20_0 := blk_frozen BK144.out 0; have hfz20_1 := blk_frozen BK144.out 1; have hfz20_2 := blk_frozen BK144.out 2; have hfz20_3 := blk_frozen BK144.out 3; have hfz20_4 := blk_frozen BK144.out 4) | (go_at_call 25; (with_reducible refine (laws_zzFits14.calls a2_0 a2_1 a2_2 a2_3 a2_4 t147 _ A12.out).mono ?_); rintro e w21 ⟨rfl, hb⟩; have n0_ := Aside0.mk (blk_below (g := gb142) (o := .cells #[.int .u64 a0_0, .int .u64 a0_1, .int .u64 a0_2, .string a0_3, .string a0_4] 29 (0, 0)) (by (with_reducible repeat (first | refine blk_drewN ?_ _ | refine blk_drew ?_ | refine blk_alloc ?_ _)); exact BK142.out) hb); have n1_ := Aside0.mk (blk_below (g := gb143) (o := .cells #[.int .u64 a1_0, .int .u64 a1_1, .int .u64 a1_2, .string a1_3, .string a1_4] 29 (0, 0)) (by (with_reducible repeat (first | refine blk_drewN ?_ _ | refine blk_drew ?_ | refine blk_alloc ?_ _)); exact BK143.out) hb); have n2_ := Aside0.mk (blk_below (g := gb144) (o := .cells #[.int .u64 a2_0, .int .u64 a2_1, .int .u64 a2_2, .string a2_3, .string a2_4] 29 (0, 0)) (by (with_reducible repeat (first | refine blk_drewN ?_ _ | refine blk_drew ?_ | refine blk_alloc ?_ _)); exact BK144.out) hb); have n3_ := Aside0.mk (below_step (by repeat (first | (with_reducible first | exact HB.out | apply below_alloc | apply pw_below_drewN | apply below_drew1 | refine below_set ?_ GE142.out | refine below_set ?_ GE143.out | refine below_set ?_ GE144.out) | exact HB.out)) hb); clear BK142; clear BK143; clear BK144; clear HB; have BK142 := n0_; have BK143 := n1_; have BK144 := n2_; have HB := n3_; clear n0_ n1_ n2_ n3_; (try clear hb); (try clear hb2); (try clear hk); (try clear hi)))
        go_meet
        case rel => exact ⟨_, (!t147), (by first | rfl | (simp; done) | (simp [*]; done)), H', ⟨by first | omega | exact Nat.le_refl _⟩, ⟨by (with_reducible repeat (first | refine blk_drewN ?_ _ | refine blk_drew ?_ | refine blk_alloc ?_ _)); exact BK142.out⟩, ⟨by (with_reducible repeat (first | refine blk_drewN ?_ _ | refine blk_drew ?_ | refine blk_alloc ?_ _)); exact BK143.out⟩, ⟨by (with_reducible repeat (first | refine blk_drewN ?_ _ | refine blk_drew ?_ | refine blk_alloc ?_ _)); exact BK144.out⟩, ⟨by repeat (first | (with_reducible first | exact HB.out | apply below_alloc | apply pw_below_drewN | apply below_drew1 | refine below_set ?_ GE142.out | refine below_set ?_ GE143.out | refine below_set ?_ GE144.out) | exact HB.out)⟩⟩
      · replace c11 := Bool.eq_false_iff.mpr c11
        subst c11
        have H1 : (laws_FnSemverOrder.j0 k true a0_0 a0_1 a0_2 a0_3 a0_4 a1_0 a1_1 a1_2 a1_3 a1_4 a2_0 a2_1 a2_2 a2_3 a2_4) = some r := by rw [if_neg (show ¬ (false = true) by decide)] at H; exact H
        clear H
        have H := H1
        clear H1
        have H' := Aside0.mk H
        clear H
        have hnb22 := NB142_143.out
        have hnc22 := NB143_142.out
        have hnb23 := NB142_144.out
        have hnc23 := NB144_142.out
        have hcz24_0 : w7.cell? ⟨gb142, 0, none⟩ = some (.int .u64 a0_0) := (blk_cell BK142.out 0).trans rfl
        have hcz24_1 : w7.cell? ⟨gb142, 1, none⟩ = some (.int .u64 a0_1) := (blk_cell BK142.out 1).trans rfl
        have hcz24_2 : w7.cell? ⟨gb142, 2, none⟩ = some (.int .u64 a0_2) := (blk_cell BK142.out 2).trans rfl
        have hcz24_3 : w7.cell? ⟨gb142, 3, none⟩ = some (.string a0_3) := (blk_cell BK142.out 3).trans rfl
        have hcz24_4 : w7.cell? ⟨gb142, 4, none⟩ = some (.string a0_4) := (blk_cell BK142.out 4).trans rfl
        have hfz24_0 := blk_frozen BK142.out 0
        have hfz24_1 := blk_frozen BK142.out 1
        have hfz24_2 := blk_frozen BK142.out 2
        have hfz24_3 := blk_frozen BK142.out 3
        have hfz24_4 := blk_frozen BK142.out 4
        go_wp2_with (first | ((with_reducible refine gate_callee (f := 25) rfl ?_); refine goesL_ (some 12) rfl rfl Tryd.func25 (by kernel_rfl) rfl #[.agg #[.int .u64 a0_0, .int .u64 a0_1, .int .u64 a0_2, .string a0_3, .string a0_4]] rfl (by (try simp only [List.map_toArray, List.map_cons, List.map_nil]); first | done | rfl | (simp only [List.length_drop, List.length_take]; rfl)) ?_; (with_reducible refine (laws_zzFits14.calls a0_0 a0_1 a0_2 a0_3 a0_4 true _ A8.out).mono ?_); rintro e w25 ⟨rfl, hb⟩; refine ⟨_, rfl, ?_⟩; have n0_ := Aside0.mk (blk_below (g := gb142) (o := .cells #[.int .u64 a0_0, .int .u64 a0_1, .int .u64 a0_2, .string a0_3, .string a0_4] 29 (0, 0)) (by (with_reducible repeat (first | refine blk_drewN ?_ _ | refine blk_drew ?_ | refine blk_alloc ?_ _)); exact BK142.out) hb); have n1_ := Aside0.mk (blk_below (g := gb143) (o := .cells #[.int .u64 a1_0, .int .u64 a1_1, .int .u64 a1_2, .string a1_3, .string a1_4] 29 (0, 0)) (by (with_reducible repeat (first | refine blk_drewN ?_ _ | refine blk_drew ?_ | refine blk_alloc ?_ _)); exact BK143.out) hb); have n2_ := Aside0.mk (blk_below (g := gb144) (o := .cells #[.int .u64 a2_0, .int .u64 a2_1, .int .u64 a2_2, .string a2_3, .string a2_4] 29 (0, 0)) (by (with_reducible repeat (first | refine blk_drewN ?_ _ | refine blk_drew ?_ | refine blk_alloc ?_ _)); exact BK144.out) hb); have n3_ := Aside0.mk (below_step (by repeat (first | (with_reducible first | exact HB.out | apply below_alloc | apply pw_below_drewN | apply below_drew1 | refine below_set ?_ GE142.out | refine below_set ?_ GE143.out | refine below_set ?_ GE144.out) | exact HB.out)) hb); clear BK142; clear BK143; clear BK144; clear HB; have BK142 := n0_; have BK143 := n1_; have BK144 := n2_; have HB := n3_; clear n0_ n1_ n2_ n3_; (try clear hb); (try clear hb2); (try clear hk); (try clear hi); have hnb26 := NB143_144.out; have hnc26 := NB144_143.out; have hcz27_0 : w25.cell? ⟨gb143, 0, none⟩ = some (.int .u64 a1_0) := (blk_cell BK143.out 0).trans rfl; have hcz27_1 : w25.cell? ⟨gb143, 1, none⟩ = some (.int .u64 a1_1) := (blk_cell BK143.out 1).trans rfl; have hcz27_2 : w25.cell? ⟨gb143, 2, none⟩ = some (.int .u64 a1_2) := (blk_cell BK143.out 2).trans rfl; have hcz27_3 : w25.cell? ⟨gb143, 3, none⟩ = some (.string a1_3) := (blk_cell BK143.out 3).trans rfl; have hcz27_4 : w25.cell? ⟨gb143, 4, none⟩ = some (.string a1_4) := (blk_cell BK143.out 4).trans rfl; have hfz27_0 := blk_frozen BK143.out 0; have hfz27_1 := blk_frozen BK143.out 1; have hfz27_2 := blk_frozen BK143.out 2; have hfz27_3 := blk_frozen BK143.out 3; have hfz27_4 := blk_frozen BK143.out 4) | (go_at_call 25; (with_reducible refine (laws_zzFits14.calls a1_0 a1_1 a1_2 a1_3 a1_4 false _ A10.out).mono ?_); rintro e w28 ⟨rfl, hb⟩; have n0_ := Aside0.mk (blk_below (g := gb142) (o := .cells #[.int .u64 a0_0, .int .u64 a0_1, .int .u64 a0_2, .string a0_3, .string a0_4] 29 (0, 0)) (by (with_reducible repeat (first | refine blk_drewN ?_ _ | refine blk_drew ?_ | refine blk_alloc ?_ _)); exact BK142.out) hb); have n1_ := Aside0.mk (blk_below (g := gb143) (o := .cells #[.int .u64 a1_0, .int .u64 a1_1, .int .u64 a1_2, .string a1_3, .string a1_4] 29 (0, 0)) (by (with_reducible repeat (first | refine blk_drewN ?_ _ | refine blk_drew ?_ | refine blk_alloc ?_ _)); exact BK143.out) hb); have n2_ := Aside0.mk (blk_below (g := gb144) (o := .cells #[.int .u64 a2_0, .int .u64 a2_1, .int .u64 a2_2, .string a2_3, .string a2_4] 29 (0, 0)) (by (with_reducible repeat (first | refine blk_drewN ?_ _ | refine blk_drew ?_ | refine blk_alloc ?_ _)); exact BK144.out) hb); have n3_ := Aside0.mk (below_step (by repeat (first | (with_reducible first | exact HB.out | apply below_alloc | apply pw_below_drewN | apply below_drew1 | refine below_set ?_ GE142.out | refine below_set ?_ GE143.out | refine below_set ?_ GE144.out) | exact HB.out)) hb); clear BK142; clear BK143; clear BK144; clear HB; have BK142 := n0_; have BK143 := n1_; have BK144 := n2_; have HB := n3_; clear n0_ n1_ n2_ n3_; (try clear hb); (try clear hb2); (try clear hk); (try clear hi)))
        go_meet
        case rel => exact ⟨_, (true), (by first | rfl | (simp; done) | (simp [*]; done)), H', ⟨by first | omega | exact Nat.le_refl _⟩, ⟨by (with_reducible repeat (first | refine blk_drewN ?_ _ | refine blk_drew ?_ | refine blk_alloc ?_ _)); exact BK142.out⟩, ⟨by (with_reducible repeat (first | refine blk_drewN ?_ _ | refine blk_drew ?_ | refine blk_alloc ?_ _)); exact BK143.out⟩, ⟨by (with_reducible repeat (first | refine blk_drewN ?_ _ | refine blk_drew ?_ | refine blk_alloc ?_ _)); exact BK144.out⟩, ⟨by repeat (first | (with_reducible first | exact HB.out | apply below_alloc | apply pw_below_drewN | apply below_drew1 | refine below_set ?_ GE142.out | refine below_set ?_ GE143.out | refine below_set ?_ GE144.out) | exact HB.out)⟩⟩
    · replace c9 := Bool.eq_false_iff.mpr c9
      subst c9
      have H1 : (laws_FnSemverOrder.j0 k true a0_0 a0_1 a0_2 a0_3 a0_4 a1_0 a1_1 a1_2 a1_3 a1_4 a2_0 a2_1 a2_2 a2_3 a2_4) = some r := by rw [if_neg (show ¬ (false = true) by decide)] at H; exact H
      clear H
      have H := H1
      clear H1
      have H' := Aside0.mk H
      clear H
      have hnb29 := NB142_143.out
      have hnc29 := NB143_142.out
      have hnb30 := NB142_144.out
      have hnc30 := NB144_142.out
      have hcz31_0 : w7.cell? ⟨gb142, 0, none⟩ = some (.int .u64 a0_0) := (blk_cell BK142.out 0).trans rfl
      have hcz31_1 : w7.cell? ⟨gb142, 1, none⟩ = some (.int .u64 a0_1) := (blk_cell BK142.out 1).trans rfl
      have hcz31_2 : w7.cell? ⟨gb142, 2, none⟩ = some (.int .u64 a0_2) := (blk_cell BK142.out 2).trans rfl
      have hcz31_3 : w7.cell? ⟨gb142, 3, none⟩ = some (.string a0_3) := (blk_cell BK142.out 3).trans rfl
      have hcz31_4 : w7.cell? ⟨gb142, 4, none⟩ = some (.string a0_4) := (blk_cell BK142.out 4).trans rfl
      have hfz31_0 := blk_frozen BK142.out 0
      have hfz31_1 := blk_frozen BK142.out 1
      have hfz31_2 := blk_frozen BK142.out 2
      have hfz31_3 := blk_frozen BK142.out 3
      have hfz31_4 := blk_frozen BK142.out 4
      go_wp2_with (first | ((with_reducible refine gate_callee (f := 25) rfl ?_); refine goesL_ (some 12) rfl rfl Tryd.func25 (by kernel_rfl) rfl #[.agg #[.int .u64 a0_0, .int .u64 a0_1, .int .u64 a0_2, .string a0_3, .string a0_4]] rfl (by (try simp only [List.map_toArray, List.map_cons, List.map_nil]); first | done | rfl | (simp only [List.length_drop, List.length_take]; rfl)) ?_; (with_reducible refine (laws_zzFits14.calls a0_0 a0_1 a0_2 a0_3 a0_4 false _ A8.out).mono ?_); rintro e w32 ⟨rfl, hb⟩; refine ⟨_, rfl, ?_⟩; have n0_ := Aside0.mk (blk_below (g := gb142) (o := .cells #[.int .u64 a0_0, .int .u64 a0_1, .int .u64 a0_2, .string a0_3, .string a0_4] 29 (0, 0)) (by (with_reducible repeat (first | refine blk_drewN ?_ _ | refine blk_drew ?_ | refine blk_alloc ?_ _)); exact BK142.out) hb); have n1_ := Aside0.mk (blk_below (g := gb143) (o := .cells #[.int .u64 a1_0, .int .u64 a1_1, .int .u64 a1_2, .string a1_3, .string a1_4] 29 (0, 0)) (by (with_reducible repeat (first | refine blk_drewN ?_ _ | refine blk_drew ?_ | refine blk_alloc ?_ _)); exact BK143.out) hb); have n2_ := Aside0.mk (blk_below (g := gb144) (o := .cells #[.int .u64 a2_0, .int .u64 a2_1, .int .u64 a2_2, .string a2_3, .string a2_4] 29 (0, 0)) (by (with_reducible repeat (first | refine blk_drewN ?_ _ | refine blk_drew ?_ | refine blk_alloc ?_ _)); exact BK144.out) hb); have n3_ := Aside0.mk (below_step (by repeat (first | (with_reducible first | exact HB.out | apply below_alloc | apply pw_below_drewN | apply below_drew1 | refine below_set ?_ GE142.out | refine below_set ?_ GE143.out | refine below_set ?_ GE144.out) | exact HB.out)) hb); clear BK142; clear BK143; clear BK144; clear HB; have BK142 := n0_; have BK143 := n1_; have BK144 := n2_; have HB := n3_; clear n0_ n1_ n2_ n3_; (try clear hb); (try clear hb2); (try clear hk); (try clear hi)))
      go_meet
      case rel => exact ⟨_, (true), (by first | rfl | (simp; done) | (simp [*]; done)), H', ⟨by first | omega | exact Nat.le_refl _⟩, ⟨by (with_reducible repeat (first | refine blk_drewN ?_ _ | refine blk_drew ?_ | refine blk_alloc ?_ _)); exact BK142.out⟩, ⟨by (with_reducible repeat (first | refine blk_drewN ?_ _ | refine blk_drew ?_ | refine blk_alloc ?_ _)); exact BK143.out⟩, ⟨by (with_reducible repeat (first | refine blk_drewN ?_ _ | refine blk_drew ?_ | refine blk_alloc ?_ _)); exact BK144.out⟩, ⟨by repeat (first | (with_reducible first | exact HB.out | apply below_alloc | apply pw_below_drewN | apply below_drew1 | refine below_set ?_ GE142.out | refine below_set ?_ GE143.out | refine below_set ?_ GE144.out) | exact HB.out)⟩⟩
  case rest =>
    clear HC4
    try clear c1
    try clear c2
    try clear p2
    try clear c3
    try clear c5
    try clear c9
    try clear c11
    try clear c13
    try clear c14
    try clear c17
    try clear c22
    try clear c23
    try clear c25
    try clear c26
    try clear c29
    try clear c30
    try clear hcz15_0
    try clear hcz15_1
    try clear hcz15_2
    try clear hcz15_3
    try clear hcz15_4
    try clear hcz18_0
    try clear hcz18_1
    try clear hcz18_2
    try clear hcz18_3
    try clear hcz18_4
    try clear hcz20_0
    try clear hcz20_1
    try clear hcz20_2
    try clear hcz20_3
    try clear hcz20_4
    try clear hcz24_0
    try clear hcz24_1
    try clear hcz24_2
    try clear hcz24_3
    try clear hcz24_4
    try clear hcz27_0
    try clear hcz27_1
    try clear hcz27_2
    try clear hcz27_3
    try clear hcz27_4
    try clear hcz31_0
    try clear hcz31_1
    try clear hcz31_2
    try clear hcz31_3
    try clear hcz31_4
    try clear hfz15_0
    try clear hfz15_1
    try clear hfz15_2
    try clear hfz15_3
    try clear hfz15_4
    try clear hfz18_0
    try clear hfz18_1
    try clear hfz18_2
    try clear hfz18_3
    try clear hfz18_4
    try clear hfz20_0
    try clear hfz20_1
    try clear hfz20_2
    try clear hfz20_3
    try clear hfz20_4
    try clear hfz24_0
    try clear hfz24_1
    try clear hfz24_2
    try clear hfz24_3
    try clear hfz24_4
    try clear hfz27_0
    try clear hfz27_1
    try clear hfz27_2
    try clear hfz27_3
    try clear hfz27_4
    try clear hfz31_0
    try clear hfz31_1
    try clear hfz31_2
    try clear hfz31_3
    try clear hfz31_4
    obtain ⟨kq, x23_3, rfl, HA, HJ3, BK142, BK143, BK144, HB⟩ := hcut
    cases kq with
    | zero => exact absurd HA.out (by simp [laws_FnSemverOrder.j0])
    | succ kj3 =>
      have H := HA.out
      clear HA
      simp only [laws_FnSemverOrder.j0] at H
      by_cases c33 : x23_3 = true
      · subst c33
        have H1 : (some true) = some r := by rw [if_pos rfl] at H; exact H
        clear H
        have H := H1
        clear H1
        obtain rfl := Option.some.inj H
        go_wp2
        go_ret
        exact ⟨by first | rfl | (simp [errW_none, errW_some] <;> rfl) | (simp [*, errW_none, errW_some] <;> rfl), by repeat (first | (with_reducible first | exact HB.out | apply below_alloc | apply pw_below_drewN | apply below_drew1 | refine below_set ?_ GE142.out | refine below_set ?_ GE143.out | refine below_set ?_ GE144.out) | exact HB.out)⟩
      · replace c33 := Bool.eq_false_iff.mpr c33
        subst c33
        have H1 : ((laws_svGood.f kj3 (([(⟨a0_0, a0_1, a0_2, a0_3, a0_4⟩ : S29), (⟨a1_0, a1_1, a1_2, a1_3, a1_4⟩ : S29), (⟨a2_0, a2_1, a2_2, a2_3, a2_4⟩ : S29)] : List (S29)))).bind fun t151 => (if t151 = true then ((Hand.VersionCompare.f a0_0 a0_1 a0_2 a0_3 a0_4 a1_0 a1_1 a1_2 a1_3 a1_4).bind fun t152 => ((Hand.VersionCompare.f a1_0 a1_1 a1_2 a1_3 a1_4 a2_0 a2_1 a2_2 a2_3 a2_4).bind fun t153 => ((Hand.VersionCompare.f a0_0 a0_1 a0_2 a0_3 a0_4 a2_0 a2_1 a2_2 a2_3 a2_4).bind fun t154 => ((laws_svMeta.f a0_0 a0_1 a0_2 a0_3 a0_4 (⟨#[]⟩ : ByteArray)).bind fun bt155 => ((laws_svMeta.f a1_0 a1_1 a1_2 a1_3 a1_4 (⟨#[]⟩ : ByteArray)).bind fun bt160 => ((Hand.VersionCompare.f a1_0 a1_1 a1_2 a1_3 a1_4 a0_0 a0_1 a0_2 a0_3 a0_4).bind fun t165 => (if t165 = (wrap64 (-t152)) then (if ((t152 == 0) != (bt155.1 == bt160.1 && (bt155.2.1 == bt160.2.1 && (bt155.2.2.1 == bt160.2.2.1 && (bt155.2.2.2.1.toList == bt160.2.2.2.1.toList && (bt155.2.2.2.2.toList == bt160.2.2.2.2.toList)))))) = true then (some false) else (if t152 < (-1) then (some false) else (if t152 > 1 then (some false) else (if t152 > 0 then (some true) else (if t153 > 0 then (some true) else (if t154 ≤ 0 then (if t154 < 0 then (some true) else (if t152 = 0 then (some (t153 == 0)) else (some false))) else (some false))))))) else (some false)))))))) else (some true))) = some r := by rw [if_neg (show ¬ (false = true) by decide)] at H; exact H
        clear H
        have H := H1
        clear H1
        obtain ⟨y148, hy148⟩ : ∃ y_ : List (S29), y_ = (([(⟨a0_0, a0_1, a0_2, a0_3, a0_4⟩ : S29), (⟨a1_0, a1_1, a1_2, a1_3, a1_4⟩ : S29), (⟨a2_0, a2_1, a2_2, a2_3, a2_4⟩ : S29)] : List (S29))) := ⟨_, rfl⟩
        replace H : ((laws_svGood.f kj3 y148).bind fun t151 => (if t151 = true then ((Hand.VersionCompare.f a0_0 a0_1 a0_2 a0_3 a0_4 a1_0 a1_1 a1_2 a1_3 a1_4).bind fun t152 => ((Hand.VersionCompare.f a1_0 a1_1 a1_2 a1_3 a1_4 a2_0 a2_1 a2_2 a2_3 a2_4).bind fun t153 => ((Hand.VersionCompare.f a0_0 a0_1 a0_2 a0_3 a0_4 a2_0 a2_1 a2_2 a2_3 a2_4).bind fun t154 => ((laws_svMeta.f a0_0 a0_1 a0_2 a0_3 a0_4 (⟨#[]⟩ : ByteArray)).bind fun bt155 => ((laws_svMeta.f a1_0 a1_1 a1_2 a1_3 a1_4 (⟨#[]⟩ : ByteArray)).bind fun bt160 => ((Hand.VersionCompare.f a1_0 a1_1 a1_2 a1_3 a1_4 a0_0 a0_1 a0_2 a0_3 a0_4).bind fun t165 => (if t165 = (wrap64 (-t152)) then (if ((t152 == 0) != (bt155.1 == bt160.1 && (bt155.2.1 == bt160.2.1 && (bt155.2.2.1 == bt160.2.2.1 && (bt155.2.2.2.1.toList == bt160.2.2.2.1.toList && (bt155.2.2.2.2.toList == bt160.2.2.2.2.toList)))))) = true then (some false) else (if t152 < (-1) then (some false) else (if t152 > 1 then (some false) else (if t152 > 0 then (some true) else (if t153 > 0 then (some true) else (if t154 ≤ 0 then (if t154 < 0 then (some true) else (if t152 = 0 then (some (t153 == 0)) else (some false))) else (some false))))))) else (some false)))))))) else (some true))) = some r := by first | (rw [hy148]; with_reducible exact H) | (have H2_ := (Option.bind_some _ _).symm.trans H; rw [hy148]; with_reducible exact H2_) | (have H2_ := (Option.bind_some _ _).symm.trans H; with_reducible exact H2_) | with_reducible exact H | (rw [hy148]; exact H) | exact H
        have Ny148 := Aside0.mk hy148
        clear hy148
        replace H := Option.bind_eq_some_iff.mp H
        obtain ⟨t151, A340, H⟩ := H
        replace H : (if t151 = true then ((Hand.VersionCompare.f a0_0 a0_1 a0_2 a0_3 a0_4 a1_0 a1_1 a1_2 a1_3 a1_4).bind fun t152 => ((Hand.VersionCompare.f a1_0 a1_1 a1_2 a1_3 a1_4 a2_0 a2_1 a2_2 a2_3 a2_4).bind fun t153 => ((Hand.VersionCompare.f a0_0 a0_1 a0_2 a0_3 a0_4 a2_0 a2_1 a2_2 a2_3 a2_4).bind fun t154 => ((laws_svMeta.f a0_0 a0_1 a0_2 a0_3 a0_4 (⟨#[]⟩ : ByteArray)).bind fun bt155 => ((laws_svMeta.f a1_0 a1_1 a1_2 a1_3 a1_4 (⟨#[]⟩ : ByteArray)).bind fun bt160 => ((Hand.VersionCompare.f a1_0 a1_1 a1_2 a1_3 a1_4 a0_0 a0_1 a0_2 a0_3 a0_4).bind fun t165 => (if t165 = (wrap64 (-t152)) then (if ((t152 == 0) != (bt155.1 == bt160.1 && (bt155.2.1 == bt160.2.1 && (bt155.2.2.1 == bt160.2.2.1 && (bt155.2.2.2.1.toList == bt160.2.2.2.1.toList && (bt155.2.2.2.2.toList == bt160.2.2.2.2.toList)))))) = true then (some false) else (if t152 < (-1) then (some false) else (if t152 > 1 then (some false) else (if t152 > 0 then (some true) else (if t153 > 0 then (some true) else (if t154 ≤ 0 then (if t154 < 0 then (some true) else (if t152 = 0 then (some (t153 == 0)) else (some false))) else (some false))))))) else (some false)))))))) else (some true)) = some r := H
        have A34 := Aside0.mk A340
        clear A340
        by_cases c35 : t151 = true
        · subst c35
          have H1 : ((Hand.VersionCompare.f a0_0 a0_1 a0_2 a0_3 a0_4 a1_0 a1_1 a1_2 a1_3 a1_4).bind fun t152 => ((Hand.VersionCompare.f a1_0 a1_1 a1_2 a1_3 a1_4 a2_0 a2_1 a2_2 a2_3 a2_4).bind fun t153 => ((Hand.VersionCompare.f a0_0 a0_1 a0_2 a0_3 a0_4 a2_0 a2_1 a2_2 a2_3 a2_4).bind fun t154 => ((laws_svMeta.f a0_0 a0_1 a0_2 a0_3 a0_4 (⟨#[]⟩ : ByteArray)).bind fun bt155 => ((laws_svMeta.f a1_0 a1_1 a1_2 a1_3 a1_4 (⟨#[]⟩ : ByteArray)).bind fun bt160 => ((Hand.VersionCompare.f a1_0 a1_1 a1_2 a1_3 a1_4 a0_0 a0_1 a0_2 a0_3 a0_4).bind fun t165 => (if t165 = (wrap64 (-t152)) then (if ((t152 == 0) != (bt155.1 == bt160.1 && (bt155.2.1 == bt160.2.1 && (bt155.2.2.1 == bt160.2.2.1 && (bt155.2.2.2.1.toList == bt160.2.2.2.1.toList && (bt155.2.2.2.2.toList == bt160.2.2.2.2.toList)))))) = true then (some false) else (if t152 < (-1) then (some false) else (if t152 > 1 then (some false) else (if t152 > 0 then (some true) else (if t153 > 0 then (some true) else (if t154 ≤ 0 then (if t154 < 0 then (some true) else (if t152 = 0 then (some (t153 == 0)) else (some false))) else (some false))))))) else (some false)))))))) = some r := by rw [if_pos rfl] at H; exact H
          clear H
          have H := H1
          clear H1
          replace H := Option.bind_eq_some_iff.mp H
          obtain ⟨t152, A360, H⟩ := H
          replace H : ((Hand.VersionCompare.f a1_0 a1_1 a1_2 a1_3 a1_4 a2_0 a2_1 a2_2 a2_3 a2_4).bind fun t153 => ((Hand.VersionCompare.f a0_0 a0_1 a0_2 a0_3 a0_4 a2_0 a2_1 a2_2 a2_3 a2_4).bind fun t154 => ((laws_svMeta.f a0_0 a0_1 a0_2 a0_3 a0_4 (⟨#[]⟩ : ByteArray)).bind fun bt155 => ((laws_svMeta.f a1_0 a1_1 a1_2 a1_3 a1_4 (⟨#[]⟩ : ByteArray)).bind fun bt160 => ((Hand.VersionCompare.f a1_0 a1_1 a1_2 a1_3 a1_4 a0_0 a0_1 a0_2 a0_3 a0_4).bind fun t165 => (if t165 = (wrap64 (-t152)) then (if ((t152 == 0) != (bt155.1 == bt160.1 && (bt155.2.1 == bt160.2.1 && (bt155.2.2.1 == bt160.2.2.1 && (bt155.2.2.2.1.toList == bt160.2.2.2.1.toList && (bt155.2.2.2.2.toList == bt160.2.2.2.2.toList)))))) = true then (some false) else (if t152 < (-1) then (some false) else (if t152 > 1 then (some false) else (if t152 > 0 then (some true) else (if t153 > 0 then (some true) else (if t154 ≤ 0 then (if t154 < 0 then (some true) else (if t152 = 0 then (some (t153 == 0)) else (some false))) else (some false))))))) else (some false))))))) = some r := H
          have A36 := Aside0.mk A360
          clear A360
          replace H := Option.bind_eq_some_iff.mp H
          obtain ⟨t153, A370, H⟩ := H
          replace H : ((Hand.VersionCompare.f a0_0 a0_1 a0_2 a0_3 a0_4 a2_0 a2_1 a2_2 a2_3 a2_4).bind fun t154 => ((laws_svMeta.f a0_0 a0_1 a0_2 a0_3 a0_4 (⟨#[]⟩ : ByteArray)).bind fun bt155 => ((laws_svMeta.f a1_0 a1_1 a1_2 a1_3 a1_4 (⟨#[]⟩ : ByteArray)).bind fun bt160 => ((Hand.VersionCompare.f a1_0 a1_1 a1_2 a1_3 a1_4 a0_0 a0_1 a0_2 a0_3 a0_4).bind fun t165 => (if t165 = (wrap64 (-t152)) then (if ((t152 == 0) != (bt155.1 == bt160.1 && (bt155.2.1 == bt160.2.1 && (bt155.2.2.1 == bt160.2.2.1 && (bt155.2.2.2.1.toList == bt160.2.2.2.1.toList && (bt155.2.2.2.2.toList == bt160.2.2.2.2.toList)))))) = true then (some false) else (if t152 < (-1) then (some false) else (if t152 > 1 then (some false) else (if t152 > 0 then (some true) else (if t153 > 0 then (some true) else (if t154 ≤ 0 then (if t154 < 0 then (some true) else (if t152 = 0 then (some (t153 == 0)) else (some false))) else (some false))))))) else (some false)))))) = some r := H
          have A37 := Aside0.mk A370
          clear A370
          replace H := Option.bind_eq_some_iff.mp H
          obtain ⟨t154, A380, H⟩ := H
          replace H : ((laws_svMeta.f a0_0 a0_1 a0_2 a0_3 a0_4 (⟨#[]⟩ : ByteArray)).bind fun bt155 => ((laws_svMeta.f a1_0 a1_1 a1_2 a1_3 a1_4 (⟨#[]⟩ : ByteArray)).bind fun bt160 => ((Hand.VersionCompare.f a1_0 a1_1 a1_2 a1_3 a1_4 a0_0 a0_1 a0_2 a0_3 a0_4).bind fun t165 => (if t165 = (wrap64 (-t152)) then (if ((t152 == 0) != (bt155.1 == bt160.1 && (bt155.2.1 == bt160.2.1 && (bt155.2.2.1 == bt160.2.2.1 && (bt155.2.2.2.1.toList == bt160.2.2.2.1.toList && (bt155.2.2.2.2.toList == bt160.2.2.2.2.toList)))))) = true then (some false) else (if t152 < (-1) then (some false) else (if t152 > 1 then (some false) else (if t152 > 0 then (some true) else (if t153 > 0 then (some true) else (if t154 ≤ 0 then (if t154 < 0 then (some true) else (if t152 = 0 then (some (t153 == 0)) else (some false))) else (some false))))))) else (some false))))) = some r := H
          have A38 := Aside0.mk A380
          clear A380
          replace H := Option.bind_eq_some_iff.mp H
          obtain ⟨⟨t155, t156, t157, t158, t159⟩, A390, H⟩ := H
          replace H : ((laws_svMeta.f a1_0 a1_1 a1_2 a1_3 a1_4 (⟨#[]⟩ : ByteArray)).bind fun bt160 => ((Hand.VersionCompare.f a1_0 a1_1 a1_2 a1_3 a1_4 a0_0 a0_1 a0_2 a0_3 a0_4).bind fun t165 => (if t165 = (wrap64 (-t152)) then (if ((t152 == 0) != (t155 == bt160.1 && (t156 == bt160.2.1 && (t157 == bt160.2.2.1 && (t158.toList == bt160.2.2.2.1.toList && (t159.toList == bt160.2.2.2.2.toList)))))) = true then (some false) else (if t152 < (-1) then (some false) else (if t152 > 1 then (some false) else (if t152 > 0 then (some true) else (if t153 > 0 then (some true) else (if t154 ≤ 0 then (if t154 < 0 then (some true) else (if t152 = 0 then (some (t153 == 0)) else (some false))) else (some false))))))) else (some false)))) = some r := H
          have A39 := Aside0.mk A390
          clear A390
          replace H := Option.bind_eq_some_iff.mp H
          obtain ⟨⟨t160, t161, t162, t163, t164⟩, A400, H⟩ := H
          replace H : ((Hand.VersionCompare.f a1_0 a1_1 a1_2 a1_3 a1_4 a0_0 a0_1 a0_2 a0_3 a0_4).bind fun t165 => (if t165 = (wrap64 (-t152)) then (if ((t152 == 0) != (t155 == t160 && (t156 == t161 && (t157 == t162 && (t158.toList == t163.toList && (t159.toList == t164.toList)))))) = true then (some false) else (if t152 < (-1) then (some false) else (if t152 > 1 then (some false) else (if t152 > 0 then (some true) else (if t153 > 0 then (some true) else (if t154 ≤ 0 then (if t154 < 0 then (some true) else (if t152 = 0 then (some (t153 == 0)) else (some false))) else (some false))))))) else (some false))) = some r := H
          have A40 := Aside0.mk A400
          clear A400
          replace H := Option.bind_eq_some_iff.mp H
          obtain ⟨t165, A410, H⟩ := H
          replace H : (if t165 = (wrap64 (-t152)) then (if ((t152 == 0) != (t155 == t160 && (t156 == t161 && (t157 == t162 && (t158.toList == t163.toList && (t159.toList == t164.toList)))))) = true then (some false) else (if t152 < (-1) then (some false) else (if t152 > 1 then (some false) else (if t152 > 0 then (some true) else (if t153 > 0 then (some true) else (if t154 ≤ 0 then (if t154 < 0 then (some true) else (if t152 = 0 then (some (t153 == 0)) else (some false))) else (some false))))))) else (some false)) = some r := H
          have A41 := Aside0.mk A410
          clear A410
          have HQ0 := HPW.out _ t152 t153 t154 t155 t156 t157 t158 t159 t160 t161 t162 t163 t164 t165 (Ny148.out ▸ A34.out) A36.out A37.out A38.out A39.out A40.out A41.out
          have HQ := Aside0.mk HQ0
          clear HQ0
          by_cases c42 : t165 = (wrap64 (-t152))
          · rw [if_pos c42] at H
            have c42b0 : (t165 == (wrap64 (-t152))) = true := beq_iff_eq.mpr c42
            have c42b1 : (t165 != (wrap64 (-t152))) = false := bne_eq_false_iff_eq.mpr c42
            clear c42
            by_cases c43 : ((t152 == 0) != (t155 == t160 && (t156 == t161 && (t157 == t162 && (t158.toList == t163.toList && (t159.toList == t164.toList)))))) = true
            · exact absurd c43 HQ.out.2.1
            · rw [if_neg c43] at H
              have c43b0 : ((t152 == 0) != (t155 == t160 && (t156 == t161 && (t157 == t162 && (t158.toList == t163.toList && (t159.toList == t164.toList)))))) = false := by simpa using c43
              (try (have c43b1 : decide ((t152 == 0) = (t155 == t160 && (t156 == t161 && (t157 == t162 && (t158.toList == t163.toList && (t159.toList == t164.toList)))))) = true := by simpa using c43))
              (try (have c43b2 : ((t152 == 0) == (t155 == t160 && (t156 == t161 && (t157 == t162 && (t158.toList == t163.toList && (t159.toList == t164.toList)))))) = true := by simpa using c43))
              clear c43
              by_cases c64 : t152 < (-1)
              · exact absurd c64 HQ.out.2.2.1
              · rw [if_neg c64] at H
                have c64b0 : decide (t152 < (-1)) = false := decide_eq_false c64
                clear c64
                by_cases c85 : t152 > 1
                · exact absurd c85 HQ.out.2.2.2.1
                · rw [if_neg c85] at H
                  have c85b0 : decide (1 < t152) = false := decide_eq_false c85
                  clear c85
                  by_cases c106 : t152 > 0
                  · rw [if_pos c106] at H
                    have c106b0 : decide (0 < t152) = true := decide_eq_true c106
                    clear c106
                    obtain rfl := Option.some.inj H
                    have hnb107 := NB142_143.out
                    have hnc107 := NB143_142.out
                    have hnb108 := NB142_144.out
                    have hnc108 := NB144_142.out
                    have hcz109_0 : wc.cell? ⟨gb142, 0, none⟩ = some (.int .u64 a0_0) := (blk_cell BK142.out 0).trans rfl
                    have hcz109_1 : wc.cell? ⟨gb142, 1, none⟩ = some (.int .u64 a0_1) := (blk_cell BK142.out 1).trans rfl
                    have hcz109_2 : wc.cell? ⟨gb142, 2, none⟩ = some (.int .u64 a0_2) := (blk_cell BK142.out 2).trans rfl
                    have hcz109_3 : wc.cell? ⟨gb142, 3, none⟩ = some (.string a0_3) := (blk_cell BK142.out 3).trans rfl
                    have hcz109_4 : wc.cell? ⟨gb142, 4, none⟩ = some (.string a0_4) := (blk_cell BK142.out 4).trans rfl
                    have hfz109_0 := blk_frozen BK142.out 0
                    have hfz109_1 := blk_frozen BK142.out 1
                    have hfz109_2 := blk_frozen BK142.out 2
                    have hfz109_3 := blk_frozen BK142.out 3
                    have hfz109_4 := blk_frozen BK142.out 4
                    have hnb110 := NB143_144.out
                    have hnc110 := NB144_143.out
                    have hcz111_0 : wc.cell? ⟨gb143, 0, none⟩ = some (.int .u64 a1_0) := (blk_cell BK143.out 0).trans rfl
                    have hcz111_1 : wc.cell? ⟨gb143, 1, none⟩ = some (.int .u64 a1_1) := (blk_cell BK143.out 1).trans rfl
                    have hcz111_2 : wc.cell? ⟨gb143, 2, none⟩ = some (.int .u64 a1_2) := (blk_cell BK143.out 2).trans rfl
                    have hcz111_3 : wc.cell? ⟨gb143, 3, none⟩ = some (.string a1_3) := (blk_cell BK143.out 3).trans rfl
                    have hcz111_4 : wc.cell? ⟨gb143, 4, none⟩ = some (.string a1_4) := (blk_cell BK143.out 4).trans rfl
                    have hfz111_0 := blk_frozen BK143.out 0
                    have hfz111_1 := blk_frozen BK143.out 1
                    have hfz111_2 := blk_frozen BK143.out 2
                    have hfz111_3 := blk_frozen BK143.out 3
                    have hfz111_4 := blk_frozen BK143.out 4
                    have hcz112_0 : wc.cell? ⟨gb144, 0, none⟩ = some (.int .u64 a2_0) := (blk_cell BK144.out 0).trans rfl
                    have hcz112_1 : wc.cell? ⟨gb144, 1, none⟩ = some (.int .u64 a2_1) := (blk_cell BK144.out 1).trans rfl
                    have hcz112_2 : wc.cell? ⟨gb144, 2, none⟩ = some (.int .u64 a2_2) := (blk_cell BK144.out 2).trans rfl
                    have hcz112_3 : wc.cell? ⟨gb144, 3, none⟩ = some (.string a2_3) := (blk_cell BK144.out 3).trans rfl
                    have hcz112_4 : wc.cell? ⟨gb144, 4, none⟩ = some (.string a2_4) := (blk_cell BK144.out 4).trans rfl
                    have hfz112_0 := blk_frozen BK144.out 0
                    have hfz112_1 := blk_frozen BK144.out 1
                    have hfz112_2 := blk_frozen BK144.out 2
                    have hfz112_3 := blk_frozen BK144.out 3
                    have hfz112_4 := blk_frozen BK144.out 4
                    try go_wp2_with (first | ((with_reducible refine gate_dst (N := 27) rfl ?_); refine Kd.R_lit k29 _ 29 ?hg (N := 27) ?hd (xs := ([(⟨a0_0, a0_1, a0_2, a0_3, a0_4⟩ : S29), (⟨a1_0, a1_1, a1_2, a1_3, a1_4⟩ : S29), (⟨a2_0, a2_1, a2_2, a2_3, a2_4⟩ : S29)] : List (S29))) (inner := [.int .u64 a0_0, .int .u64 a0_1, .int .u64 a0_2, .string a0_3, .string a0_4, .int .u64 a1_0, .int .u64 a1_1, .int .u64 a1_2, .string a1_3, .string a1_4, .int .u64 a2_0, .int .u64 a2_1, .int .u64 a2_2, .string a2_3, .string a2_4]) (ok := fun _ => True) (okp := fun _ => True) ?hr ?hp (fun _ hk => hk) trivial (Below.refl _ _) (Nat.le_refl _) (by simp) ?_; (case hd => rfl); (case hg => rfl); (case hr => first | (go_simp; done) | (go_simp; rfl)); (case hp => exact (Reps.c5 (show Kd.M k29 _ _ _ (⟨a0_0, a0_1, a0_2, a0_3, a0_4⟩ : S29) [.int .u64 a0_0, .int .u64 a0_1, .int .u64 a0_2, .string a0_3, .string a0_4] from (k29_mkM _ _ _ (⟨a0_0, a0_1, a0_2, a0_3, a0_4⟩ : S29) )) (Reps.c5 (show Kd.M k29 _ _ _ (⟨a1_0, a1_1, a1_2, a1_3, a1_4⟩ : S29) [.int .u64 a1_0, .int .u64 a1_1, .int .u64 a1_2, .string a1_3, .string a1_4] from (k29_mkM _ _ _ (⟨a1_0, a1_1, a1_2, a1_3, a1_4⟩ : S29) )) (Reps.c5 (show Kd.M k29 _ _ _ (⟨a2_0, a2_1, a2_2, a2_3, a2_4⟩ : S29) [.int .u64 a2_0, .int .u64 a2_1, .int .u64 a2_2, .string a2_3, .string a2_4] from (k29_mkM _ _ _ (⟨a2_0, a2_1, a2_2, a2_3, a2_4⟩ : S29) )) (Reps.none _ _))))); intro v149 w113 ho114 hb hg_ hnew_; clear hg_ hnew_; (first | rw [← Ny148.out] at ho114 | (simp only [Int.reduceToNat] at ho114; rw [← Ny148.out] at ho114)); have n0_ := Aside0.mk (Kd.R_lower (Kd.R_newB (Kd.R_newB (Kd.R_newB ho114 (g := gb142) (o := .cells #[.int .u64 a0_0, .int .u64 a0_1, .int .u64 a0_2, .string a0_3, .string a0_4] 29 (0, 0)) (by (with_reducible repeat (first | refine blk_drewN ?_ _ | refine blk_drew ?_ | refine blk_alloc ?_ _)); exact BK142.out)) (g := gb143) (o := .cells #[.int .u64 a1_0, .int .u64 a1_1, .int .u64 a1_2, .string a1_3, .string a1_4] 29 (0, 0)) (by (with_reducible repeat (first | refine blk_drewN ?_ _ | refine blk_drew ?_ | refine blk_alloc ?_ _)); exact BK143.out)) (g := gb144) (o := .cells #[.int .u64 a2_0, .int .u64 a2_1, .int .u64 a2_2, .string a2_3, .string a2_4] 29 (0, 0)) (by (with_reducible repeat (first | refine blk_drewN ?_ _ | refine blk_drew ?_ | refine blk_alloc ?_ _)); exact BK144.out)) (below_size (by repeat (first | (with_reducible first | exact HB.out | apply below_alloc | apply pw_below_drewN | apply below_drew1 | refine below_set ?_ GE142.out | refine below_set ?_ GE143.out | refine below_set ?_ GE144.out) | exact HB.out)))); have n1_ := Aside0.mk (blk_below (g := gb142) (o := .cells #[.int .u64 a0_0, .int .u64 a0_1, .int .u64 a0_2, .string a0_3, .string a0_4] 29 (0, 0)) (by (with_reducible repeat (first | refine blk_drewN ?_ _ | refine blk_drew ?_ | refine blk_alloc ?_ _)); exact BK142.out) hb); have n2_ := Aside0.mk (blk_below (g := gb143) (o := .cells #[.int .u64 a1_0, .int .u64 a1_1, .int .u64 a1_2, .string a1_3, .string a1_4] 29 (0, 0)) (by (with_reducible repeat (first | refine blk_drewN ?_ _ | refine blk_drew ?_ | refine blk_alloc ?_ _)); exact BK143.out) hb); have n3_ := Aside0.mk (blk_below (g := gb144) (o := .cells #[.int .u64 a2_0, .int .u64 a2_1, .int .u64 a2_2, .string a2_3, .string a2_4] 29 (0, 0)) (by (with_reducible repeat (first | refine blk_drewN ?_ _ | refine blk_drew ?_ | refine blk_alloc ?_ _)); exact BK144.out) hb); have n4_ := Aside0.mk (below_step (by repeat (first | (with_reducible first | exact HB.out | apply below_alloc | apply pw_below_drewN | apply below_drew1 | refine below_set ?_ GE142.out | refine below_set ?_ GE143.out | refine below_set ?_ GE144.out) | exact HB.out)) hb); clear BK142; clear BK143; clear BK144; clear HB; have HO150 := n0_; have BK142 := n1_; have BK143 := n2_; have BK144 := n3_; have HB := n4_; clear n0_ n1_ n2_ n3_ n4_; clear hb ho114; obtain ⟨Ao115, co115, eo115⟩ := Kd.R_slice HO150.out; subst eo115) | ((with_reducible refine gate_callee (f := 26) rfl ?_); refine goesL_ (some 28) rfl rfl Tryd.func26 (by kernel_rfl) rfl #[.slice Ao115 y148.length co115] rfl (by (try simp only [List.map_toArray, List.map_cons, List.map_nil]); first | done | rfl | (simp only [List.length_drop, List.length_take]; rfl)) ?_; (with_reducible refine (laws_svGood.calls kj3 _ _ y148 true _ ?side1 ?side2 A34.out).mono ?_); (case side1 => repeat (first | exact (Kd.R_reads' HO150.out).2.2 | (with_reducible refine Kd.C_alloc ?_ _) | (with_reducible refine Kd.C_drewN ?_ _) | (with_reducible refine Kd.C_drew ?_))); (case side2 => exact (Kd.R_reads' HO150.out).2.1); rintro e w116 ⟨rfl, hb⟩; refine ⟨_, rfl, ?_⟩; have n0_ := Aside0.mk (Kd.R_below (by (with_reducible repeat (first | apply Kd.R_alloc | apply Kd.R_drewN | apply Kd.R_drew)); exact HO150.out) hb); have n1_ := Aside0.mk (blk_below (g := gb142) (o := .cells #[.int .u64 a0_0, .int .u64 a0_1, .int .u64 a0_2, .string a0_3, .string a0_4] 29 (0, 0)) (by (with_reducible repeat (first | refine blk_drewN ?_ _ | refine blk_drew ?_ | refine blk_alloc ?_ _)); exact BK142.out) hb); have n2_ := Aside0.mk (blk_below (g := gb143) (o := .cells #[.int .u64 a1_0, .int .u64 a1_1, .int .u64 a1_2, .string a1_3, .string a1_4] 29 (0, 0)) (by (with_reducible repeat (first | refine blk_drewN ?_ _ | refine blk_drew ?_ | refine blk_alloc ?_ _)); exact BK143.out) hb); have n3_ := Aside0.mk (blk_below (g := gb144) (o := .cells #[.int .u64 a2_0, .int .u64 a2_1, .int .u64 a2_2, .string a2_3, .string a2_4] 29 (0, 0)) (by (with_reducible repeat (first | refine blk_drewN ?_ _ | refine blk_drew ?_ | refine blk_alloc ?_ _)); exact BK144.out) hb); have n4_ := Aside0.mk (below_step (by repeat (first | (with_reducible first | exact HB.out | apply below_alloc | apply pw_below_drewN | apply below_drew1 | refine below_set ?_ GE142.out | refine below_set ?_ GE143.out | refine below_set ?_ GE144.out) | exact HB.out)) hb); clear HO150; clear BK142; clear BK143; clear BK144; clear HB; have HO150 := n0_; have BK142 := n1_; have BK143 := n2_; have BK144 := n3_; have HB := n4_; clear n0_ n1_ n2_ n3_ n4_; (try clear hb); (try clear hb2); (try clear hk); (try clear hi)))
                    have n0_ := Aside0.mk (Kd.R_drew HO150.out)
                    have n1_ := Aside0.mk (blk_drew BK142.out)
                    have n2_ := Aside0.mk (blk_drew BK143.out)
                    have n3_ := Aside0.mk (blk_drew BK144.out)
                    have n4_ := Aside0.mk (below_drew1 HB.out)
                    clear HO150
                    clear BK142
                    clear BK143
                    clear BK144
                    clear HB
                    have HO150 := n0_
                    have BK142 := n1_
                    have BK143 := n2_
                    have BK144 := n3_
                    have HB := n4_
                    clear n0_ n1_ n2_ n3_ n4_
                    refine start_ (n := 12) (S := fun w' => w'.cell? ⟨gb142, 0, none⟩ = some (.int .u64 a0_0) ∧ w'.cell? ⟨gb142, 1, none⟩ = some (.int .u64 a0_1) ∧ w'.cell? ⟨gb142, 2, none⟩ = some (.int .u64 a0_2) ∧ w'.cell? ⟨gb142, 3, none⟩ = some (.string a0_3) ∧ w'.cell? ⟨gb142, 4, none⟩ = some (.string a0_4) ∧ w'.cell? ⟨gb143, 0, none⟩ = some (.int .u64 a1_0) ∧ w'.cell? ⟨gb143, 1, none⟩ = some (.int .u64 a1_1) ∧ w'.cell? ⟨gb143, 2, none⟩ = some (.int .u64 a1_2) ∧ w'.cell? ⟨gb143, 3, none⟩ = some (.string a1_3) ∧ w'.cell? ⟨gb143, 4, none⟩ = some (.string a1_4) ∧ w'.cell? ⟨gb144, 0, none⟩ = some (.int .u64 a2_0) ∧ w'.cell? ⟨gb144, 1, none⟩ = some (.int .u64 a2_1) ∧ w'.cell? ⟨gb144, 2, none⟩ = some (.int .u64 a2_2) ∧ w'.cell? ⟨gb144, 3, none⟩ = some (.string a2_3) ∧ w'.cell? ⟨gb144, 4, none⟩ = some (.string a2_4)) (ds := []) #[false, false, false, false, false, false, false, false, false, false, false, false] (by kernel_rfl) rfl rfl ⟨(blk_cell BK142.out 0).trans rfl, (blk_cell BK142.out 1).trans rfl, (blk_cell BK142.out 2).trans rfl, (blk_cell BK142.out 3).trans rfl, (blk_cell BK142.out 4).trans rfl, (blk_cell BK143.out 0).trans rfl, (blk_cell BK143.out 1).trans rfl, (blk_cell BK143.out 2).trans rfl, (blk_cell BK143.out 3).trans rfl, (blk_cell BK143.out 4).trans rfl, (blk_cell BK144.out 0).trans rfl, (blk_cell BK144.out 1).trans rfl, (blk_cell BK144.out 2).trans rfl, (blk_cell BK144.out 3).trans rfl, (blk_cell BK144.out 4).trans rfl⟩ (fun hHeld => ?_); refine with_tabW laws_FnSemverOrder.tab5 laws_FnSemverOrder.bits5 (fun HT_ HW_ => ?_)
                    generalize w116.drew = w117 at HO150 BK142 BK143 BK144 HB hHeld ⊢
                    refine take_ (i := 0) (N := some 30) (v := ?_) (a' := ?_) #[true, false, false, false, false, false, false, false, false, false, false, false] rfl rfl (take_ofW HT_.out HW_.out (by kernel_rfl)) (fun _ _ _ h => h) (Or.inl ⟨by rfl, ?_⟩) hHeld ?_ ?_
                    rotate_left
                    · rintro w' ⟨s0, s1, s2, s3, s4, s5, s6, s7, s8, s9, s10, s11, s12, s13, s14⟩
                      go_simp
                      with_reducible rfl
                    rotate_left
                    · simp only [Act.put, List.setIfInBounds_toArray, List.set_cons_zero, List.set_cons_succ, i64_w, i32_w]
                      rfl
                    refine take_ (i := 1) (N := some 31) (v := ?_) (a' := ?_) #[true, true, false, false, false, false, false, false, false, false, false, false] rfl rfl (take_ofW HT_.out HW_.out (by kernel_rfl)) (fun _ _ _ h => h) (Or.inl ⟨by rfl, ?_⟩) hHeld ?_ ?_
                    rotate_left
                    · rintro w' ⟨s0, s1, s2, s3, s4, s5, s6, s7, s8, s9, s10, s11, s12, s13, s14⟩
                      go_simp
                      with_reducible rfl
                    rotate_left
                    · simp only [Act.put, List.setIfInBounds_toArray, List.set_cons_zero, List.set_cons_succ, i64_w, i32_w]
                      rfl
                    refine take_ (i := 3) (N := some 33) (v := ?_) (a' := ?_) #[true, true, false, true, false, false, false, false, false, false, false, false] rfl rfl (take_ofW HT_.out HW_.out (by kernel_rfl)) (fun _ _ _ h => h) (Or.inl ⟨by rfl, ?_⟩) hHeld ?_ ?_
                    rotate_left
                    · rintro w' ⟨s0, s1, s2, s3, s4, s5, s6, s7, s8, s9, s10, s11, s12, s13, s14⟩
                      go_simp
                      with_reducible rfl
                    rotate_left
                    · simp only [Act.put, List.setIfInBounds_toArray, List.set_cons_zero, List.set_cons_succ, i64_w, i32_w]
                      rfl
                    refine take_ (i := 4) (N := some 34) (v := ?_) (a' := ?_) #[true, true, false, true, true, false, false, false, false, false, false, false] rfl rfl (take_ofW HT_.out HW_.out (by kernel_rfl)) (fun _ _ _ h => h) (Or.inl ⟨by rfl, ?_⟩) hHeld ?_ ?_
                    rotate_left
                    · rintro w' ⟨s0, s1, s2, s3, s4, s5, s6, s7, s8, s9, s10, s11, s12, s13, s14⟩
                      go_simp
                      with_reducible rfl
                    rotate_left
                    · simp only [Act.put, List.setIfInBounds_toArray, List.set_cons_zero, List.set_cons_succ, i64_w, i32_w]
                      rfl
                    refine take_ (i := 6) (N := some 36) (v := ?_) (a' := ?_) #[true, true, false, true, true, false, true, false, false, false, false, false] rfl rfl (take_ofW HT_.out HW_.out (by kernel_rfl)) (fun _ _ _ h => h) (Or.inl ⟨by rfl, ?_⟩) hHeld ?_ ?_
                    rotate_left
                    · rintro w' ⟨s0, s1, s2, s3, s4, s5, s6, s7, s8, s9, s10, s11, s12, s13, s14⟩
                      go_simp
                      with_reducible rfl
                    rotate_left
                    · simp only [Act.put, List.setIfInBounds_toArray, List.set_cons_zero, List.set_cons_succ, i64_w, i32_w]
                      rfl
                    refine take_ (i := 7) (N := some 37) (v := ?_) (a' := ?_) #[true, true, false, true, true, false, true, true, false, false, false, false] rfl rfl (take_ofW HT_.out HW_.out (by kernel_rfl)) (fun _ _ _ h => h) (Or.inl ⟨by rfl, ?_⟩) hHeld ?_ ?_
                    rotate_left
                    · rintro w' ⟨s0, s1, s2, s3, s4, s5, s6, s7, s8, s9, s10, s11, s12, s13, s14⟩
                      go_simp
                      with_reducible rfl
                    rotate_left
                    · simp only [Act.put, List.setIfInBounds_toArray, List.set_cons_zero, List.set_cons_succ, i64_w, i32_w]
                      rfl
                    refine one_ (i := 2) (N := some 32) #[true, true, true, true, true, false, true, true, false, false, false, false] rfl rfl (one_of HT_.out (by kernel_rfl)) (by decide) (fun K hK => ?_)
                    refine goes_ Tryd.func27 (by kernel_rfl) rfl #[.agg #[.int .u64 a0_0, .int .u64 a0_1, .int .u64 a0_2, .string a0_3, .string a0_4], .agg #[.int .u64 a1_0, .int .u64 a1_1, .int .u64 a1_2, .string a1_3, .string a1_4]] (by rfl) rfl rfl (by (try simp only [List.map_toArray, List.map_cons, List.map_nil]); first | done | rfl | (simp only [List.length_drop, List.length_take]; rfl)) ?_
                    with_reducible refine (Hand.VersionCompare.calls a0_0 a0_1 a0_2 a0_3 a0_4 a1_0 a1_1 a1_2 a1_3 a1_4 t152 _ ?gl20 A36.out).mono ?_
                    case gl20 => (first | exact HG.out | exact Hand.Gl.below HG.out (by repeat (first | (with_reducible first | exact HB.out | apply below_alloc | apply pw_below_drewN | apply below_drew1) | exact HB.out)))
                    rintro e w118 ⟨rfl, hb⟩
                    refine ⟨_, rfl, ?_⟩
                    have n0_ := Aside0.mk (Kd.R_below (by (with_reducible repeat (first | apply Kd.R_alloc | apply Kd.R_drewN | apply Kd.R_drew)); exact HO150.out) hb)
                    have n1_ := Aside0.mk (blk_below (g := gb142) (o := .cells #[.int .u64 a0_0, .int .u64 a0_1, .int .u64 a0_2, .string a0_3, .string a0_4] 29 (0, 0)) (by (with_reducible repeat (first | refine blk_drewN ?_ _ | refine blk_drew ?_ | refine blk_alloc ?_ _)); exact BK142.out) hb)
                    have n2_ := Aside0.mk (blk_below (g := gb143) (o := .cells #[.int .u64 a1_0, .int .u64 a1_1, .int .u64 a1_2, .string a1_3, .string a1_4] 29 (0, 0)) (by (with_reducible repeat (first | refine blk_drewN ?_ _ | refine blk_drew ?_ | refine blk_alloc ?_ _)); exact BK143.out) hb)
                    have n3_ := Aside0.mk (blk_below (g := gb144) (o := .cells #[.int .u64 a2_0, .int .u64 a2_1, .int .u64 a2_2, .string a2_3, .string a2_4] 29 (0, 0)) (by (with_reducible repeat (first | refine blk_drewN ?_ _ | refine blk_drew ?_ | refine blk_alloc ?_ _)); exact BK144.out) hb)
                    have n4_ := Aside0.mk (below_step (by repeat (first | (with_reducible first | exact HB.out | apply below_alloc | apply pw_below_drewN | apply below_drew1 | refine below_set ?_ GE142.out | refine below_set ?_ GE143.out | refine below_set ?_ GE144.out) | exact HB.out)) hb)
                    clear HO150
                    clear BK142
                    clear BK143
                    clear BK144
                    clear HB
                    have HO150 := n0_
                    have BK142 := n1_
                    have BK143 := n2_
                    have BK144 := n3_
                    have HB := n4_
                    clear n0_ n1_ n2_ n3_ n4_
                    (try clear hb)
                    (try clear hb2)
                    (try clear hk)
                    (try clear hi)
                    refine hK.out _ _ ⟨(blk_cell BK142.out 0).trans rfl, (blk_cell BK142.out 1).trans rfl, (blk_cell BK142.out 2).trans rfl, (blk_cell BK142.out 3).trans rfl, (blk_cell BK142.out 4).trans rfl, (blk_cell BK143.out 0).trans rfl, (blk_cell BK143.out 1).trans rfl, (blk_cell BK143.out 2).trans rfl, (blk_cell BK143.out 3).trans rfl, (blk_cell BK143.out 4).trans rfl, (blk_cell BK144.out 0).trans rfl, (blk_cell BK144.out 1).trans rfl, (blk_cell BK144.out 2).trans rfl, (blk_cell BK144.out 3).trans rfl, (blk_cell BK144.out 4).trans rfl⟩ (fun hHeld => ?_)
                    clear hK K
                    refine norm_ (a' := ?_) ?_ ?_
                    rotate_left
                    · show Act.put _ (some 32) _ = _
                      simp only [Act.put, List.setIfInBounds_toArray, List.set_cons_zero, List.set_cons_succ, i64_w, i32_w]
                      rfl
                    refine one_ (i := 5) (N := some 35) #[true, true, true, true, true, true, true, true, false, false, false, false] rfl rfl (one_of HT_.out (by kernel_rfl)) (by decide) (fun K hK => ?_)
                    refine goes_ Tryd.func27 (by kernel_rfl) rfl #[.agg #[.int .u64 a1_0, .int .u64 a1_1, .int .u64 a1_2, .string a1_3, .string a1_4], .agg #[.int .u64 a2_0, .int .u64 a2_1, .int .u64 a2_2, .string a2_3, .string a2_4]] (by rfl) rfl rfl (by (try simp only [List.map_toArray, List.map_cons, List.map_nil]); first | done | rfl | (simp only [List.length_drop, List.length_take]; rfl)) ?_
                    with_reducible refine (Hand.VersionCompare.calls a1_0 a1_1 a1_2 a1_3 a1_4 a2_0 a2_1 a2_2 a2_3 a2_4 t153 _ ?gl21 A37.out).mono ?_
                    case gl21 => (first | exact HG.out | exact Hand.Gl.below HG.out (by repeat (first | (with_reducible first | exact HB.out | apply below_alloc | apply pw_below_drewN | apply below_drew1) | exact HB.out)))
                    rintro e w119 ⟨rfl, hb⟩
                    refine ⟨_, rfl, ?_⟩
                    have n0_ := Aside0.mk (Kd.R_below (by (with_reducible repeat (first | apply Kd.R_alloc | apply Kd.R_drewN | apply Kd.R_drew)); exact HO150.out) hb)
                    have n1_ := Aside0.mk (blk_below (g := gb142) (o := .cells #[.int .u64 a0_0, .int .u64 a0_1, .int .u64 a0_2, .string a0_3, .string a0_4] 29 (0, 0)) (by (with_reducible repeat (first | refine blk_drewN ?_ _ | refine blk_drew ?_ | refine blk_alloc ?_ _)); exact BK142.out) hb)
                    have n2_ := Aside0.mk (blk_below (g := gb143) (o := .cells #[.int .u64 a1_0, .int .u64 a1_1, .int .u64 a1_2, .string a1_3, .string a1_4] 29 (0, 0)) (by (with_reducible repeat (first | refine blk_drewN ?_ _ | refine blk_drew ?_ | refine blk_alloc ?_ _)); exact BK143.out) hb)
                    have n3_ := Aside0.mk (blk_below (g := gb144) (o := .cells #[.int .u64 a2_0, .int .u64 a2_1, .int .u64 a2_2, .string a2_3, .string a2_4] 29 (0, 0)) (by (with_reducible repeat (first | refine blk_drewN ?_ _ | refine blk_drew ?_ | refine blk_alloc ?_ _)); exact BK144.out) hb)
                    have n4_ := Aside0.mk (below_step (by repeat (first | (with_reducible first | exact HB.out | apply below_alloc | apply pw_below_drewN | apply below_drew1 | refine below_set ?_ GE142.out | refine below_set ?_ GE143.out | refine below_set ?_ GE144.out) | exact HB.out)) hb)
                    clear HO150
                    clear BK142
                    clear BK143
                    clear BK144
                    clear HB
                    have HO150 := n0_
                    have BK142 := n1_
                    have BK143 := n2_
                    have BK144 := n3_
                    have HB := n4_
                    clear n0_ n1_ n2_ n3_ n4_
                    (try clear hb)
                    (try clear hb2)
                    (try clear hk)
                    (try clear hi)
                    refine hK.out _ _ ⟨(blk_cell BK142.out 0).trans rfl, (blk_cell BK142.out 1).trans rfl, (blk_cell BK142.out 2).trans rfl, (blk_cell BK142.out 3).trans rfl, (blk_cell BK142.out 4).trans rfl, (blk_cell BK143.out 0).trans rfl, (blk_cell BK143.out 1).trans rfl, (blk_cell BK143.out 2).trans rfl, (blk_cell BK143.out 3).trans rfl, (blk_cell BK143.out 4).trans rfl, (blk_cell BK144.out 0).trans rfl, (blk_cell BK144.out 1).trans rfl, (blk_cell BK144.out 2).trans rfl, (blk_cell BK144.out 3).trans rfl, (blk_cell BK144.out 4).trans rfl⟩ (fun hHeld => ?_)
                    clear hK K
                    refine norm_ (a' := ?_) ?_ ?_
                    rotate_left
                    · show Act.put _ (some 35) _ = _
                      simp only [Act.put, List.setIfInBounds_toArray, List.set_cons_zero, List.set_cons_succ, i64_w, i32_w]
                      rfl
                    refine one_ (i := 8) (N := some 38) #[true, true, true, true, true, true, true, true, true, false, false, false] rfl rfl (one_of HT_.out (by kernel_rfl)) (by decide) (fun K hK => ?_)
                    refine goes_ Tryd.func27 (by kernel_rfl) rfl #[.agg #[.int .u64 a0_0, .int .u64 a0_1, .int .u64 a0_2, .string a0_3, .string a0_4], .agg #[.int .u64 a2_0, .int .u64 a2_1, .int .u64 a2_2, .string a2_3, .string a2_4]] (by rfl) rfl rfl (by (try simp only [List.map_toArray, List.map_cons, List.map_nil]); first | done | rfl | (simp only [List.length_drop, List.length_take]; rfl)) ?_
                    with_reducible refine (Hand.VersionCompare.calls a0_0 a0_1 a0_2 a0_3 a0_4 a2_0 a2_1 a2_2 a2_3 a2_4 t154 _ ?gl22 A38.out).mono ?_
                    case gl22 => (first | exact HG.out | exact Hand.Gl.below HG.out (by repeat (first | (with_reducible first | exact HB.out | apply below_alloc | apply pw_below_drewN | apply below_drew1) | exact HB.out)))
                    rintro e w120 ⟨rfl, hb⟩
                    refine ⟨_, rfl, ?_⟩
                    have n0_ := Aside0.mk (Kd.R_below (by (with_reducible repeat (first | apply Kd.R_alloc | apply Kd.R_drewN | apply Kd.R_drew)); exact HO150.out) hb)
                    have n1_ := Aside0.mk (blk_below (g := gb142) (o := .cells #[.int .u64 a0_0, .int .u64 a0_1, .int .u64 a0_2, .string a0_3, .string a0_4] 29 (0, 0)) (by (with_reducible repeat (first | refine blk_drewN ?_ _ | refine blk_drew ?_ | refine blk_alloc ?_ _)); exact BK142.out) hb)
                    have n2_ := Aside0.mk (blk_below (g := gb143) (o := .cells #[.int .u64 a1_0, .int .u64 a1_1, .int .u64 a1_2, .string a1_3, .string a1_4] 29 (0, 0)) (by (with_reducible repeat (first | refine blk_drewN ?_ _ | refine blk_drew ?_ | refine blk_alloc ?_ _)); exact BK143.out) hb)
                    have n3_ := Aside0.mk (blk_below (g := gb144) (o := .cells #[.int .u64 a2_0, .int .u64 a2_1, .int .u64 a2_2, .string a2_3, .string a2_4] 29 (0, 0)) (by (with_reducible repeat (first | refine blk_drewN ?_ _ | refine blk_drew ?_ | refine blk_alloc ?_ _)); exact BK144.out) hb)
                    have n4_ := Aside0.mk (below_step (by repeat (first | (with_reducible first | exact HB.out | apply below_alloc | apply pw_below_drewN | apply below_drew1 | refine below_set ?_ GE142.out | refine below_set ?_ GE143.out | refine below_set ?_ GE144.out) | exact HB.out)) hb)
                    clear HO150
                    clear BK142
                    clear BK143
                    clear BK144
                    clear HB
                    have HO150 := n0_
                    have BK142 := n1_
                    have BK143 := n2_
                    have BK144 := n3_
                    have HB := n4_
                    clear n0_ n1_ n2_ n3_ n4_
                    (try clear hb)
                    (try clear hb2)
                    (try clear hk)
                    (try clear hi)
                    refine hK.out _ _ ⟨(blk_cell BK142.out 0).trans rfl, (blk_cell BK142.out 1).trans rfl, (blk_cell BK142.out 2).trans rfl, (blk_cell BK142.out 3).trans rfl, (blk_cell BK142.out 4).trans rfl, (blk_cell BK143.out 0).trans rfl, (blk_cell BK143.out 1).trans rfl, (blk_cell BK143.out 2).trans rfl, (blk_cell BK143.out 3).trans rfl, (blk_cell BK143.out 4).trans rfl, (blk_cell BK144.out 0).trans rfl, (blk_cell BK144.out 1).trans rfl, (blk_cell BK144.out 2).trans rfl, (blk_cell BK144.out 3).trans rfl, (blk_cell BK144.out 4).trans rfl⟩ (fun hHeld => ?_)
                    clear hK K
                    refine norm_ (a' := ?_) ?_ ?_
                    rotate_left
                    · show Act.put _ (some 38) _ = _
                      simp only [Act.put, List.setIfInBounds_toArray, List.set_cons_zero, List.set_cons_succ, i64_w, i32_w]
                      rfl
                    refine pure_ (i := 9) (N := some 7) (v := ?_) (a' := ?_) #[true, true, true, true, true, true, true, true, true, true, false, false] rfl rfl (any_of HT_.out (by kernel_rfl)) (fun _ _ _ h => h) (Or.inl ⟨by rfl, ?_⟩) ?_ ?_
                    rotate_left
                    · intro w'
                      go_simp
                      with_reducible rfl
                    rotate_left
                    · simp only [Act.put, List.setIfInBounds_toArray, List.set_cons_zero, List.set_cons_succ, i64_w, i32_w]
                      rfl
                    refine pure_ (i := 10) (N := some 8) (v := ?_) (a' := ?_) #[true, true, true, true, true, true, true, true, true, true, true, false] rfl rfl (any_of HT_.out (by kernel_rfl)) (fun _ _ _ h => h) (Or.inl ⟨by rfl, ?_⟩) ?_ ?_
                    rotate_left
                    · intro w'
                      go_simp
                      with_reducible rfl
                    rotate_left
                    · simp only [Act.put, List.setIfInBounds_toArray, List.set_cons_zero, List.set_cons_succ, i64_w, i32_w]
                      rfl
                    refine pure_ (i := 11) (N := some 9) (v := ?_) (a' := ?_) #[true, true, true, true, true, true, true, true, true, true, true, true] rfl rfl (any_of HT_.out (by kernel_rfl)) (fun _ _ _ h => h) (Or.inl ⟨by rfl, ?_⟩) ?_ ?_
                    rotate_left
                    · intro w'
                      go_simp
                      with_reducible rfl
                    rotate_left
                    · simp only [Act.put, List.setIfInBounds_toArray, List.set_cons_zero, List.set_cons_succ, i64_w, i32_w]
                      rfl
                    refine done_ (done_of HT_.out (by kernel_rfl)) ?_
                    try go_wp2
                    have n0_ := Aside0.mk (Kd.R_drew HO150.out)
                    have n1_ := Aside0.mk (blk_drew BK142.out)
                    have n2_ := Aside0.mk (blk_drew BK143.out)
                    have n3_ := Aside0.mk (blk_drew BK144.out)
                    have n4_ := Aside0.mk (below_drew1 HB.out)
                    clear HO150
                    clear BK142
                    clear BK143
                    clear BK144
                    clear HB
                    have HO150 := n0_
                    have BK142 := n1_
                    have BK143 := n2_
                    have BK144 := n3_
                    have HB := n4_
                    clear n0_ n1_ n2_ n3_ n4_
                    refine start_ (n := 6) (S := fun w' => w'.cell? ⟨gb142, 0, none⟩ = some (.int .u64 a0_0) ∧ w'.cell? ⟨gb142, 1, none⟩ = some (.int .u64 a0_1) ∧ w'.cell? ⟨gb142, 2, none⟩ = some (.int .u64 a0_2) ∧ w'.cell? ⟨gb142, 3, none⟩ = some (.string a0_3) ∧ w'.cell? ⟨gb142, 4, none⟩ = some (.string a0_4) ∧ w'.cell? ⟨gb143, 0, none⟩ = some (.int .u64 a1_0) ∧ w'.cell? ⟨gb143, 1, none⟩ = some (.int .u64 a1_1) ∧ w'.cell? ⟨gb143, 2, none⟩ = some (.int .u64 a1_2) ∧ w'.cell? ⟨gb143, 3, none⟩ = some (.string a1_3) ∧ w'.cell? ⟨gb143, 4, none⟩ = some (.string a1_4)) (ds := []) #[false, false, false, false, false, false] (by kernel_rfl) rfl rfl ⟨(blk_cell BK142.out 0).trans rfl, (blk_cell BK142.out 1).trans rfl, (blk_cell BK142.out 2).trans rfl, (blk_cell BK142.out 3).trans rfl, (blk_cell BK142.out 4).trans rfl, (blk_cell BK143.out 0).trans rfl, (blk_cell BK143.out 1).trans rfl, (blk_cell BK143.out 2).trans rfl, (blk_cell BK143.out 3).trans rfl, (blk_cell BK143.out 4).trans rfl⟩ (fun hHeld => ?_)
                    generalize w120.drew = w121 at HO150 BK142 BK143 BK144 HB hHeld ⊢
                    refine take_ (i := 0) (N := some 39) (v := ?_) (a' := ?_) #[true, false, false, false, false, false] rfl rfl (by kernel_rfl) (fun _ _ _ h => h) (Or.inl ⟨by rfl, ?_⟩) hHeld ?_ ?_
                    rotate_left
                    · rintro w' ⟨s0, s1, s2, s3, s4, s5, s6, s7, s8, s9⟩
                      go_simp
                      with_reducible rfl
                    rotate_left
                    · simp only [Act.put, List.setIfInBounds_toArray, List.set_cons_zero, List.set_cons_succ, i64_w, i32_w]
                      rfl
                    refine take_ (i := 2) (N := some 41) (v := ?_) (a' := ?_) #[true, false, true, false, false, false] rfl rfl (by kernel_rfl) (fun _ _ _ h => h) (Or.inl ⟨by rfl, ?_⟩) hHeld ?_ ?_
                    rotate_left
                    · rintro w' ⟨s0, s1, s2, s3, s4, s5, s6, s7, s8, s9⟩
                      go_simp
                      with_reducible rfl
                    rotate_left
                    · simp only [Act.put, List.setIfInBounds_toArray, List.set_cons_zero, List.set_cons_succ, i64_w, i32_w]
                      rfl
                    refine one_ (i := 1) (N := some 40) #[true, true, true, false, false, false] rfl rfl (by kernel_rfl) (by decide) (fun K hK => ?_)
                    refine goes_ Tryd.func28 (by kernel_rfl) rfl #[.agg #[.int .u64 a0_0, .int .u64 a0_1, .int .u64 a0_2, .string a0_3, .string a0_4], .string (⟨#[]⟩ : ByteArray)] (by rfl) rfl rfl (by (try simp only [List.map_toArray, List.map_cons, List.map_nil]); first | done | rfl | (simp only [List.length_drop, List.length_take]; rfl)) ?_
                    with_reducible refine (laws_svMeta.calls a0_0 a0_1 a0_2 a0_3 a0_4 (⟨#[]⟩ : ByteArray) t155 t156 t157 t158 t159 _ A39.out).mono ?_
                    rintro e w122 ⟨rfl, hb⟩
                    refine ⟨_, rfl, ?_⟩
                    have n0_ := Aside0.mk (Kd.R_below (by (with_reducible repeat (first | apply Kd.R_alloc | apply Kd.R_drewN | apply Kd.R_drew)); exact HO150.out) hb)
                    have n1_ := Aside0.mk (blk_below (g := gb142) (o := .cells #[.int .u64 a0_0, .int .u64 a0_1, .int .u64 a0_2, .string a0_3, .string a0_4] 29 (0, 0)) (by (with_reducible repeat (first | refine blk_drewN ?_ _ | refine blk_drew ?_ | refine blk_alloc ?_ _)); exact BK142.out) hb)
                    have n2_ := Aside0.mk (blk_below (g := gb143) (o := .cells #[.int .u64 a1_0, .int .u64 a1_1, .int .u64 a1_2, .string a1_3, .string a1_4] 29 (0, 0)) (by (with_reducible repeat (first | refine blk_drewN ?_ _ | refine blk_drew ?_ | refine blk_alloc ?_ _)); exact BK143.out) hb)
                    have n3_ := Aside0.mk (blk_below (g := gb144) (o := .cells #[.int .u64 a2_0, .int .u64 a2_1, .int .u64 a2_2, .string a2_3, .string a2_4] 29 (0, 0)) (by (with_reducible repeat (first | refine blk_drewN ?_ _ | refine blk_drew ?_ | refine blk_alloc ?_ _)); exact BK144.out) hb)
                    have n4_ := Aside0.mk (below_step (by repeat (first | (with_reducible first | exact HB.out | apply below_alloc | apply pw_below_drewN | apply below_drew1 | refine below_set ?_ GE142.out | refine below_set ?_ GE143.out | refine below_set ?_ GE144.out) | exact HB.out)) hb)
                    clear HO150
                    clear BK142
                    clear BK143
                    clear BK144
                    clear HB
                    have HO150 := n0_
                    have BK142 := n1_
                    have BK143 := n2_
                    have BK144 := n3_
                    have HB := n4_
                    clear n0_ n1_ n2_ n3_ n4_
                    (try clear hb)
                    (try clear hb2)
                    (try clear hk)
                    (try clear hi)
                    refine hK.out _ _ ⟨(blk_cell BK142.out 0).trans rfl, (blk_cell BK142.out 1).trans rfl, (blk_cell BK142.out 2).trans rfl, (blk_cell BK142.out 3).trans rfl, (blk_cell BK142.out 4).trans rfl, (blk_cell BK143.out 0).trans rfl, (blk_cell BK143.out 1).trans rfl, (blk_cell BK143.out 2).trans rfl, (blk_cell BK143.out 3).trans rfl, (blk_cell BK143.out 4).trans rfl⟩ (fun hHeld => ?_)
                    clear hK K
                    refine norm_ (a' := ?_) ?_ ?_
                    rotate_left
                    · show Act.put _ (some 40) _ = _
                      simp only [Act.put, List.setIfInBounds_toArray, List.set_cons_zero, List.set_cons_succ, i64_w, i32_w]
                      rfl
                    refine one_ (i := 3) (N := some 42) #[true, true, true, true, false, false] rfl rfl (by kernel_rfl) (by decide) (fun K hK => ?_)
                    refine goes_ Tryd.func28 (by kernel_rfl) rfl #[.agg #[.int .u64 a1_0, .int .u64 a1_1, .int .u64 a1_2, .string a1_3, .string a1_4], .string (⟨#[]⟩ : ByteArray)] (by rfl) rfl rfl (by (try simp only [List.map_toArray, List.map_cons, List.map_nil]); first | done | rfl | (simp only [List.length_drop, List.length_take]; rfl)) ?_
                    with_reducible refine (laws_svMeta.calls a1_0 a1_1 a1_2 a1_3 a1_4 (⟨#[]⟩ : ByteArray) t160 t161 t162 t163 t164 _ A40.out).mono ?_
                    rintro e w123 ⟨rfl, hb⟩
                    refine ⟨_, rfl, ?_⟩
                    have n0_ := Aside0.mk (Kd.R_below (by (with_reducible repeat (first | apply Kd.R_alloc | apply Kd.R_drewN | apply Kd.R_drew)); exact HO150.out) hb)
                    have n1_ := Aside0.mk (blk_below (g := gb142) (o := .cells #[.int .u64 a0_0, .int .u64 a0_1, .int .u64 a0_2, .string a0_3, .string a0_4] 29 (0, 0)) (by (with_reducible repeat (first | refine blk_drewN ?_ _ | refine blk_drew ?_ | refine blk_alloc ?_ _)); exact BK142.out) hb)
                    have n2_ := Aside0.mk (blk_below (g := gb143) (o := .cells #[.int .u64 a1_0, .int .u64 a1_1, .int .u64 a1_2, .string a1_3, .string a1_4] 29 (0, 0)) (by (with_reducible repeat (first | refine blk_drewN ?_ _ | refine blk_drew ?_ | refine blk_alloc ?_ _)); exact BK143.out) hb)
                    have n3_ := Aside0.mk (blk_below (g := gb144) (o := .cells #[.int .u64 a2_0, .int .u64 a2_1, .int .u64 a2_2, .string a2_3, .string a2_4] 29 (0, 0)) (by (with_reducible repeat (first | refine blk_drewN ?_ _ | refine blk_drew ?_ | refine blk_alloc ?_ _)); exact BK144.out) hb)
                    have n4_ := Aside0.mk (below_step (by repeat (first | (with_reducible first | exact HB.out | apply below_alloc | apply pw_below_drewN | apply below_drew1 | refine below_set ?_ GE142.out | refine below_set ?_ GE143.out | refine below_set ?_ GE144.out) | exact HB.out)) hb)
                    clear HO150
                    clear BK142
                    clear BK143
                    clear BK144
                    clear HB
                    have HO150 := n0_
                    have BK142 := n1_
                    have BK143 := n2_
                    have BK144 := n3_
                    have HB := n4_
                    clear n0_ n1_ n2_ n3_ n4_
                    (try clear hb)
                    (try clear hb2)
                    (try clear hk)
                    (try clear hi)
                    refine hK.out _ _ ⟨(blk_cell BK142.out 0).trans rfl, (blk_cell BK142.out 1).trans rfl, (blk_cell BK142.out 2).trans rfl, (blk_cell BK142.out 3).trans rfl, (blk_cell BK142.out 4).trans rfl, (blk_cell BK143.out 0).trans rfl, (blk_cell BK143.out 1).trans rfl, (blk_cell BK143.out 2).trans rfl, (blk_cell BK143.out 3).trans rfl, (blk_cell BK143.out 4).trans rfl⟩ (fun hHeld => ?_)
                    clear hK K
                    refine norm_ (a' := ?_) ?_ ?_
                    rotate_left
                    · show Act.put _ (some 42) _ = _
                      simp only [Act.put, List.setIfInBounds_toArray, List.set_cons_zero, List.set_cons_succ, i64_w, i32_w]
                      rfl
                    refine pure_ (i := 4) (N := some 43) (v := ?_) (a' := ?_) #[true, true, true, true, true, false] rfl rfl (by kernel_rfl) (fun _ _ _ h => h) (Or.inl ⟨by rfl, ?_⟩) ?_ ?_
                    rotate_left
                    · intro w'
                      go_simp
                      with_reducible rfl
                    rotate_left
                    · simp only [Act.put, List.setIfInBounds_toArray, List.set_cons_zero, List.set_cons_succ, i64_w, i32_w]
                      rfl
                    refine pure_ (i := 5) (N := some 10) (v := ?_) (a' := ?_) #[true, true, true, true, true, true] rfl rfl (by kernel_rfl) (fun _ _ _ h => h) (Or.inl ⟨by rfl, ?_⟩) ?_ ?_
                    rotate_left
                    · intro w'
                      go_simp
                      with_reducible rfl
                    rotate_left
                    · simp only [Act.put, List.setIfInBounds_toArray, List.set_cons_zero, List.set_cons_succ, i64_w, i32_w]
                      rfl
                    refine done_ (by kernel_rfl) ?_
                    have hcz124_0 : w123.cell? ⟨gb143, 0, none⟩ = some (.int .u64 a1_0) := (blk_cell BK143.out 0).trans rfl
                    have hcz124_1 : w123.cell? ⟨gb143, 1, none⟩ = some (.int .u64 a1_1) := (blk_cell BK143.out 1).trans rfl
                    have hcz124_2 : w123.cell? ⟨gb143, 2, none⟩ = some (.int .u64 a1_2) := (blk_cell BK143.out 2).trans rfl
                    have hcz124_3 : w123.cell? ⟨gb143, 3, none⟩ = some (.string a1_3) := (blk_cell BK143.out 3).trans rfl
                    have hcz124_4 : w123.cell? ⟨gb143, 4, none⟩ = some (.string a1_4) := (blk_cell BK143.out 4).trans rfl
                    have hfz124_0 := blk_frozen BK143.out 0
                    have hfz124_1 := blk_frozen BK143.out 1
                    have hfz124_2 := blk_frozen BK143.out 2
                    have hfz124_3 := blk_frozen BK143.out 3
                    have hfz124_4 := blk_frozen BK143.out 4
                    have hcz125_0 : w123.cell? ⟨gb142, 0, none⟩ = some (.int .u64 a0_0) := (blk_cell BK142.out 0).trans rfl
                    have hcz125_1 : w123.cell? ⟨gb142, 1, none⟩ = some (.int .u64 a0_1) := (blk_cell BK142.out 1).trans rfl
                    have hcz125_2 : w123.cell? ⟨gb142, 2, none⟩ = some (.int .u64 a0_2) := (blk_cell BK142.out 2).trans rfl
                    have hcz125_3 : w123.cell? ⟨gb142, 3, none⟩ = some (.string a0_3) := (blk_cell BK142.out 3).trans rfl
                    have hcz125_4 : w123.cell? ⟨gb142, 4, none⟩ = some (.string a0_4) := (blk_cell BK142.out 4).trans rfl
                    have hfz125_0 := blk_frozen BK142.out 0
                    have hfz125_1 := blk_frozen BK142.out 1
                    have hfz125_2 := blk_frozen BK142.out 2
                    have hfz125_3 := blk_frozen BK142.out 3
                    have hfz125_4 := blk_frozen BK142.out 4
                    try go_wp2_with (first | ((with_reducible refine gate_callee (f := 27) rfl ?_); refine goesL_ (some 46) rfl rfl Tryd.func27 (by kernel_rfl) rfl #[.agg #[.int .u64 a1_0, .int .u64 a1_1, .int .u64 a1_2, .string a1_3, .string a1_4], .agg #[.int .u64 a0_0, .int .u64 a0_1, .int .u64 a0_2, .string a0_3, .string a0_4]] rfl (by (try simp only [List.map_toArray, List.map_cons, List.map_nil]); first | done | rfl | (simp only [List.length_drop, List.length_take]; rfl)) ?_; (with_reducible refine (Hand.VersionCompare.calls a1_0 a1_1 a1_2 a1_3 a1_4 a0_0 a0_1 a0_2 a0_3 a0_4 t165 _ ?gl4 A41.out).mono ?_); (case gl4 => first | exact HG.out | exact Hand.Gl.below HG.out (by repeat (first | (with_reducible first | exact HB.out | apply below_alloc | apply pw_below_drewN | apply below_drew1) | exact HB.out))); rintro e w126 ⟨rfl, hb⟩; refine ⟨_, rfl, ?_⟩; have n0_ := Aside0.mk (Kd.R_below (by (with_reducible repeat (first | apply Kd.R_alloc | apply Kd.R_drewN | apply Kd.R_drew)); exact HO150.out) hb); have n1_ := Aside0.mk (blk_below (g := gb142) (o := .cells #[.int .u64 a0_0, .int .u64 a0_1, .int .u64 a0_2, .string a0_3, .string a0_4] 29 (0, 0)) (by (with_reducible repeat (first | refine blk_drewN ?_ _ | refine blk_drew ?_ | refine blk_alloc ?_ _)); exact BK142.out) hb); have n2_ := Aside0.mk (blk_below (g := gb143) (o := .cells #[.int .u64 a1_0, .int .u64 a1_1, .int .u64 a1_2, .string a1_3, .string a1_4] 29 (0, 0)) (by (with_reducible repeat (first | refine blk_drewN ?_ _ | refine blk_drew ?_ | refine blk_alloc ?_ _)); exact BK143.out) hb); have n3_ := Aside0.mk (blk_below (g := gb144) (o := .cells #[.int .u64 a2_0, .int .u64 a2_1, .int .u64 a2_2, .string a2_3, .string a2_4] 29 (0, 0)) (by (with_reducible repeat (first | refine blk_drewN ?_ _ | refine blk_drew ?_ | refine blk_alloc ?_ _)); exact BK144.out) hb); have n4_ := Aside0.mk (below_step (by repeat (first | (with_reducible first | exact HB.out | apply below_alloc | apply pw_below_drewN | apply below_drew1 | refine below_set ?_ GE142.out | refine below_set ?_ GE143.out | refine below_set ?_ GE144.out) | exact HB.out)) hb); clear HO150; clear BK142; clear BK143; clear BK144; clear HB; have HO150 := n0_; have BK142 := n1_; have BK143 := n2_; have BK144 := n3_; have HB := n4_; clear n0_ n1_ n2_ n3_ n4_; (try clear hb); (try clear hb2); (try clear hk); (try clear hi)))
                    go_ret
                    exact ⟨by first | rfl | (simp [errW_none, errW_some] <;> rfl) | (simp [*, errW_none, errW_some] <;> rfl), by repeat (first | (with_reducible first | exact HB.out | apply below_alloc | apply pw_below_drewN | apply below_drew1 | refine below_set ?_ GE142.out | refine below_set ?_ GE143.out | refine below_set ?_ GE144.out) | exact HB.out)⟩
                  · rw [if_neg c106] at H
                    have c106b0 : decide (0 < t152) = false := decide_eq_false c106
                    clear c106
                    by_cases c127 : t153 > 0
                    · rw [if_pos c127] at H
                      have c127b0 : decide (0 < t153) = true := decide_eq_true c127
                      clear c127
                      obtain rfl := Option.some.inj H
                      have hnb128 := NB142_143.out
                      have hnc128 := NB143_142.out
                      have hnb129 := NB142_144.out
                      have hnc129 := NB144_142.out
                      have hcz130_0 : wc.cell? ⟨gb142, 0, none⟩ = some (.int .u64 a0_0) := (blk_cell BK142.out 0).trans rfl
                      have hcz130_1 : wc.cell? ⟨gb142, 1, none⟩ = some (.int .u64 a0_1) := (blk_cell BK142.out 1).trans rfl
                      have hcz130_2 : wc.cell? ⟨gb142, 2, none⟩ = some (.int .u64 a0_2) := (blk_cell BK142.out 2).trans rfl
                      have hcz130_3 : wc.cell? ⟨gb142, 3, none⟩ = some (.string a0_3) := (blk_cell BK142.out 3).trans rfl
                      have hcz130_4 : wc.cell? ⟨gb142, 4, none⟩ = some (.string a0_4) := (blk_cell BK142.out 4).trans rfl
                      have hfz130_0 := blk_frozen BK142.out 0
                      have hfz130_1 := blk_frozen BK142.out 1
                      have hfz130_2 := blk_frozen BK142.out 2
                      have hfz130_3 := blk_frozen BK142.out 3
                      have hfz130_4 := blk_frozen BK142.out 4
                      have hnb131 := NB143_144.out
                      have hnc131 := NB144_143.out
                      have hcz132_0 : wc.cell? ⟨gb143, 0, none⟩ = some (.int .u64 a1_0) := (blk_cell BK143.out 0).trans rfl
                      have hcz132_1 : wc.cell? ⟨gb143, 1, none⟩ = some (.int .u64 a1_1) := (blk_cell BK143.out 1).trans rfl
                      have hcz132_2 : wc.cell? ⟨gb143, 2, none⟩ = some (.int .u64 a1_2) := (blk_cell BK143.out 2).trans rfl
                      have hcz132_3 : wc.cell? ⟨gb143, 3, none⟩ = some (.string a1_3) := (blk_cell BK143.out 3).trans rfl
                      have hcz132_4 : wc.cell? ⟨gb143, 4, none⟩ = some (.string a1_4) := (blk_cell BK143.out 4).trans rfl
                      have hfz132_0 := blk_frozen BK143.out 0
                      have hfz132_1 := blk_frozen BK143.out 1
                      have hfz132_2 := blk_frozen BK143.out 2
                      have hfz132_3 := blk_frozen BK143.out 3
                      have hfz132_4 := blk_frozen BK143.out 4
                      have hcz133_0 : wc.cell? ⟨gb144, 0, none⟩ = some (.int .u64 a2_0) := (blk_cell BK144.out 0).trans rfl
                      have hcz133_1 : wc.cell? ⟨gb144, 1, none⟩ = some (.int .u64 a2_1) := (blk_cell BK144.out 1).trans rfl
                      have hcz133_2 : wc.cell? ⟨gb144, 2, none⟩ = some (.int .u64 a2_2) := (blk_cell BK144.out 2).trans rfl
                      have hcz133_3 : wc.cell? ⟨gb144, 3, none⟩ = some (.string a2_3) := (blk_cell BK144.out 3).trans rfl
                      have hcz133_4 : wc.cell? ⟨gb144, 4, none⟩ = some (.string a2_4) := (blk_cell BK144.out 4).trans rfl
                      have hfz133_0 := blk_frozen BK144.out 0
                      have hfz133_1 := blk_frozen BK144.out 1
                      have hfz133_2 := blk_frozen BK144.out 2
                      have hfz133_3 := blk_frozen BK144.out 3
                      have hfz133_4 := blk_frozen BK144.out 4
                      try go_wp2_with (first | ((with_reducible refine gate_dst (N := 27) rfl ?_); refine Kd.R_lit k29 _ 29 ?hg (N := 27) ?hd (xs := ([(⟨a0_0, a0_1, a0_2, a0_3, a0_4⟩ : S29), (⟨a1_0, a1_1, a1_2, a1_3, a1_4⟩ : S29), (⟨a2_0, a2_1, a2_2, a2_3, a2_4⟩ : S29)] : List (S29))) (inner := [.int .u64 a0_0, .int .u64 a0_1, .int .u64 a0_2, .string a0_3, .string a0_4, .int .u64 a1_0, .int .u64 a1_1, .int .u64 a1_2, .string a1_3, .string a1_4, .int .u64 a2_0, .int .u64 a2_1, .int .u64 a2_2, .string a2_3, .string a2_4]) (ok := fun _ => True) (okp := fun _ => True) ?hr ?hp (fun _ hk => hk) trivial (Below.refl _ _) (Nat.le_refl _) (by simp) ?_; (case hd => rfl); (case hg => rfl); (case hr => first | (go_simp; done) | (go_simp; rfl)); (case hp => exact (Reps.c5 (show Kd.M k29 _ _ _ (⟨a0_0, a0_1, a0_2, a0_3, a0_4⟩ : S29) [.int .u64 a0_0, .int .u64 a0_1, .int .u64 a0_2, .string a0_3, .string a0_4] from (k29_mkM _ _ _ (⟨a0_0, a0_1, a0_2, a0_3, a0_4⟩ : S29) )) (Reps.c5 (show Kd.M k29 _ _ _ (⟨a1_0, a1_1, a1_2, a1_3, a1_4⟩ : S29) [.int .u64 a1_0, .int .u64 a1_1, .int .u64 a1_2, .string a1_3, .string a1_4] from (k29_mkM _ _ _ (⟨a1_0, a1_1, a1_2, a1_3, a1_4⟩ : S29) )) (Reps.c5 (show Kd.M k29 _ _ _ (⟨a2_0, a2_1, a2_2, a2_3, a2_4⟩ : S29) [.int .u64 a2_0, .int .u64 a2_1, .int .u64 a2_2, .string a2_3, .string a2_4] from (k29_mkM _ _ _ (⟨a2_0, a2_1, a2_2, a2_3, a2_4⟩ : S29) )) (Reps.none _ _))))); intro v149 w134 ho135 hb hg_ hnew_; clear hg_ hnew_; (first | rw [← Ny148.out] at ho135 | (simp only [Int.reduceToNat] at ho135; rw [← Ny148.out] at ho135)); have n0_ := Aside0.mk (Kd.R_lower (Kd.R_newB (Kd.R_newB (Kd.R_newB ho135 (g := gb142) (o := .cells #[.int .u64 a0_0, .int .u64 a0_1, .int .u64 a0_2, .string a0_3, .string a0_4] 29 (0, 0)) (by (with_reducible repeat (first | refine blk_drewN ?_ _ | refine blk_drew ?_ | refine blk_alloc ?_ _)); exact BK142.out)) (g := gb143) (o := .cells #[.int .u64 a1_0, .int .u64 a1_1, .int .u64 a1_2, .string a1_3, .string a1_4] 29 (0, 0)) (by (with_reducible repeat (first | refine blk_drewN ?_ _ | refine blk_drew ?_ | refine blk_alloc ?_ _)); exact BK143.out)) (g := gb144) (o := .cells #[.int .u64 a2_0, .int .u64 a2_1, .int .u64 a2_2, .string a2_3, .string a2_4] 29 (0, 0)) (by (with_reducible repeat (first | refine blk_drewN ?_ _ | refine blk_drew ?_ | refine blk_alloc ?_ _)); exact BK144.out)) (below_size (by repeat (first | (with_reducible first | exact HB.out | apply below_alloc | apply pw_below_drewN | apply below_drew1 | refine below_set ?_ GE142.out | refine below_set ?_ GE143.out | refine below_set ?_ GE144.out) | exact HB.out)))); have n1_ := Aside0.mk (blk_below (g := gb142) (o := .cells #[.int .u64 a0_0, .int .u64 a0_1, .int .u64 a0_2, .string a0_3, .string a0_4] 29 (0, 0)) (by (with_reducible repeat (first | refine blk_drewN ?_ _ | refine blk_drew ?_ | refine blk_alloc ?_ _)); exact BK142.out) hb); have n2_ := Aside0.mk (blk_below (g := gb143) (o := .cells #[.int .u64 a1_0, .int .u64 a1_1, .int .u64 a1_2, .string a1_3, .string a1_4] 29 (0, 0)) (by (with_reducible repeat (first | refine blk_drewN ?_ _ | refine blk_drew ?_ | refine blk_alloc ?_ _)); exact BK143.out) hb); have n3_ := Aside0.mk (blk_below (g := gb144) (o := .cells #[.int .u64 a2_0, .int .u64 a2_1, .int .u64 a2_2, .string a2_3, .string a2_4] 29 (0, 0)) (by (with_reducible repeat (first | refine blk_drewN ?_ _ | refine blk_drew ?_ | refine blk_alloc ?_ _)); exact BK144.out) hb); have n4_ := Aside0.mk (below_step (by repeat (first | (with_reducible first | exact HB.out | apply below_alloc | apply pw_below_drewN | apply below_drew1 | refine below_set ?_ GE142.out | refine below_set ?_ GE143.out | refine below_set ?_ GE144.out) | exact HB.out)) hb); clear BK142; clear BK143; clear BK144; clear HB; have HO150 := n0_; have BK142 := n1_; have BK143 := n2_; have BK144 := n3_; have HB := n4_; clear n0_ n1_ n2_ n3_ n4_; clear hb ho135; obtain ⟨Ao136, co136, eo136⟩ := Kd.R_slice HO150.out; subst eo136) | ((with_reducible refine gate_callee (f := 26) rfl ?_); refine goesL_ (some 28) rfl rfl Tryd.func26 (by kernel_rfl) rfl #[.slice Ao136 y148.length co136] rfl (by (try simp only [List.map_toArray, List.map_cons, List.map_nil]); first | done | rfl | (simp only [List.length_drop, List.length_take]; rfl)) ?_; (with_reducible refine (laws_svGood.calls kj3 _ _ y148 true _ ?side1 ?side2 A34.out).mono ?_); (case side1 => repeat (first | exact (Kd.R_reads' HO150.out).2.2 | (with_reducible refine Kd.C_alloc ?_ _) | (with_reducible refine Kd.C_drewN ?_ _) | (with_reducible refine Kd.C_drew ?_))); (case side2 => exact (Kd.R_reads' HO150.out).2.1); rintro e w137 ⟨rfl, hb⟩; refine ⟨_, rfl, ?_⟩; have n0_ := Aside0.mk (Kd.R_below (by (with_reducible repeat (first | apply Kd.R_alloc | apply Kd.R_drewN | apply Kd.R_drew)); exact HO150.out) hb); have n1_ := Aside0.mk (blk_below (g := gb142) (o := .cells #[.int .u64 a0_0, .int .u64 a0_1, .int .u64 a0_2, .string a0_3, .string a0_4] 29 (0, 0)) (by (with_reducible repeat (first | refine blk_drewN ?_ _ | refine blk_drew ?_ | refine blk_alloc ?_ _)); exact BK142.out) hb); have n2_ := Aside0.mk (blk_below (g := gb143) (o := .cells #[.int .u64 a1_0, .int .u64 a1_1, .int .u64 a1_2, .string a1_3, .string a1_4] 29 (0, 0)) (by (with_reducible repeat (first | refine blk_drewN ?_ _ | refine blk_drew ?_ | refine blk_alloc ?_ _)); exact BK143.out) hb); have n3_ := Aside0.mk (blk_below (g := gb144) (o := .cells #[.int .u64 a2_0, .int .u64 a2_1, .int .u64 a2_2, .string a2_3, .string a2_4] 29 (0, 0)) (by (with_reducible repeat (first | refine blk_drewN ?_ _ | refine blk_drew ?_ | refine blk_alloc ?_ _)); exact BK144.out) hb); have n4_ := Aside0.mk (below_step (by repeat (first | (with_reducible first | exact HB.out | apply below_alloc | apply pw_below_drewN | apply below_drew1 | refine below_set ?_ GE142.out | refine below_set ?_ GE143.out | refine below_set ?_ GE144.out) | exact HB.out)) hb); clear HO150; clear BK142; clear BK143; clear BK144; clear HB; have HO150 := n0_; have BK142 := n1_; have BK143 := n2_; have BK144 := n3_; have HB := n4_; clear n0_ n1_ n2_ n3_ n4_; (try clear hb); (try clear hb2); (try clear hk); (try clear hi)))
                      have n0_ := Aside0.mk (Kd.R_drew HO150.out)
                      have n1_ := Aside0.mk (blk_drew BK142.out)
                      have n2_ := Aside0.mk (blk_drew BK143.out)
                      have n3_ := Aside0.mk (blk_drew BK144.out)
                      have n4_ := Aside0.mk (below_drew1 HB.out)
                      clear HO150
                      clear BK142
                      clear BK143
                      clear BK144
                      clear HB
                      have HO150 := n0_
                      have BK142 := n1_
                      have BK143 := n2_
                      have BK144 := n3_
                      have HB := n4_
                      clear n0_ n1_ n2_ n3_ n4_
                      refine start_ (n := 12) (S := fun w' => w'.cell? ⟨gb142, 0, none⟩ = some (.int .u64 a0_0) ∧ w'.cell? ⟨gb142, 1, none⟩ = some (.int .u64 a0_1) ∧ w'.cell? ⟨gb142, 2, none⟩ = some (.int .u64 a0_2) ∧ w'.cell? ⟨gb142, 3, none⟩ = some (.string a0_3) ∧ w'.cell? ⟨gb142, 4, none⟩ = some (.string a0_4) ∧ w'.cell? ⟨gb143, 0, none⟩ = some (.int .u64 a1_0) ∧ w'.cell? ⟨gb143, 1, none⟩ = some (.int .u64 a1_1) ∧ w'.cell? ⟨gb143, 2, none⟩ = some (.int .u64 a1_2) ∧ w'.cell? ⟨gb143, 3, none⟩ = some (.string a1_3) ∧ w'.cell? ⟨gb143, 4, none⟩ = some (.string a1_4) ∧ w'.cell? ⟨gb144, 0, none⟩ = some (.int .u64 a2_0) ∧ w'.cell? ⟨gb144, 1, none⟩ = some (.int .u64 a2_1) ∧ w'.cell? ⟨gb144, 2, none⟩ = some (.int .u64 a2_2) ∧ w'.cell? ⟨gb144, 3, none⟩ = some (.string a2_3) ∧ w'.cell? ⟨gb144, 4, none⟩ = some (.string a2_4)) (ds := []) #[false, false, false, false, false, false, false, false, false, false, false, false] (by kernel_rfl) rfl rfl ⟨(blk_cell BK142.out 0).trans rfl, (blk_cell BK142.out 1).trans rfl, (blk_cell BK142.out 2).trans rfl, (blk_cell BK142.out 3).trans rfl, (blk_cell BK142.out 4).trans rfl, (blk_cell BK143.out 0).trans rfl, (blk_cell BK143.out 1).trans rfl, (blk_cell BK143.out 2).trans rfl, (blk_cell BK143.out 3).trans rfl, (blk_cell BK143.out 4).trans rfl, (blk_cell BK144.out 0).trans rfl, (blk_cell BK144.out 1).trans rfl, (blk_cell BK144.out 2).trans rfl, (blk_cell BK144.out 3).trans rfl, (blk_cell BK144.out 4).trans rfl⟩ (fun hHeld => ?_); refine with_tabW laws_FnSemverOrder.tab5 laws_FnSemverOrder.bits5 (fun HT_ HW_ => ?_)
                      generalize w137.drew = w138 at HO150 BK142 BK143 BK144 HB hHeld ⊢
                      refine take_ (i := 0) (N := some 30) (v := ?_) (a' := ?_) #[true, false, false, false, false, false, false, false, false, false, false, false] rfl rfl (take_ofW HT_.out HW_.out (by kernel_rfl)) (fun _ _ _ h => h) (Or.inl ⟨by rfl, ?_⟩) hHeld ?_ ?_
                      rotate_left
                      · rintro w' ⟨s0, s1, s2, s3, s4, s5, s6, s7, s8, s9, s10, s11, s12, s13, s14⟩
                        go_simp
                        with_reducible rfl
                      rotate_left
                      · simp only [Act.put, List.setIfInBounds_toArray, List.set_cons_zero, List.set_cons_succ, i64_w, i32_w]
                        rfl
                      refine take_ (i := 1) (N := some 31) (v := ?_) (a' := ?_) #[true, true, false, false, false, false, false, false, false, false, false, false] rfl rfl (take_ofW HT_.out HW_.out (by kernel_rfl)) (fun _ _ _ h => h) (Or.inl ⟨by rfl, ?_⟩) hHeld ?_ ?_
                      rotate_left
                      · rintro w' ⟨s0, s1, s2, s3, s4, s5, s6, s7, s8, s9, s10, s11, s12, s13, s14⟩
                        go_simp
                        with_reducible rfl
                      rotate_left
                      · simp only [Act.put, List.setIfInBounds_toArray, List.set_cons_zero, List.set_cons_succ, i64_w, i32_w]
                        rfl
                      refine take_ (i := 3) (N := some 33) (v := ?_) (a' := ?_) #[true, true, false, true, false, false, false, false, false, false, false, false] rfl rfl (take_ofW HT_.out HW_.out (by kernel_rfl)) (fun _ _ _ h => h) (Or.inl ⟨by rfl, ?_⟩) hHeld ?_ ?_
                      rotate_left
                      · rintro w' ⟨s0, s1, s2, s3, s4, s5, s6, s7, s8, s9, s10, s11, s12, s13, s14⟩
                        go_simp
                        with_reducible rfl
                      rotate_left
                      · simp only [Act.put, List.setIfInBounds_toArray, List.set_cons_zero, List.set_cons_succ, i64_w, i32_w]
                        rfl
                      refine take_ (i := 4) (N := some 34) (v := ?_) (a' := ?_) #[true, true, false, true, true, false, false, false, false, false, false, false] rfl rfl (take_ofW HT_.out HW_.out (by kernel_rfl)) (fun _ _ _ h => h) (Or.inl ⟨by rfl, ?_⟩) hHeld ?_ ?_
                      rotate_left
                      · rintro w' ⟨s0, s1, s2, s3, s4, s5, s6, s7, s8, s9, s10, s11, s12, s13, s14⟩
                        go_simp
                        with_reducible rfl
                      rotate_left
                      · simp only [Act.put, List.setIfInBounds_toArray, List.set_cons_zero, List.set_cons_succ, i64_w, i32_w]
                        rfl
                      refine take_ (i := 6) (N := some 36) (v := ?_) (a' := ?_) #[true, true, false, true, true, false, true, false, false, false, false, false] rfl rfl (take_ofW HT_.out HW_.out (by kernel_rfl)) (fun _ _ _ h => h) (Or.inl ⟨by rfl, ?_⟩) hHeld ?_ ?_
                      rotate_left
                      · rintro w' ⟨s0, s1, s2, s3, s4, s5, s6, s7, s8, s9, s10, s11, s12, s13, s14⟩
                        go_simp
                        with_reducible rfl
                      rotate_left
                      · simp only [Act.put, List.setIfInBounds_toArray, List.set_cons_zero, List.set_cons_succ, i64_w, i32_w]
                        rfl
                      refine take_ (i := 7) (N := some 37) (v := ?_) (a' := ?_) #[true, true, false, true, true, false, true, true, false, false, false, false] rfl rfl (take_ofW HT_.out HW_.out (by kernel_rfl)) (fun _ _ _ h => h) (Or.inl ⟨by rfl, ?_⟩) hHeld ?_ ?_
                      rotate_left
                      · rintro w' ⟨s0, s1, s2, s3, s4, s5, s6, s7, s8, s9, s10, s11, s12, s13, s14⟩
                        go_simp
                        with_reducible rfl
                      rotate_left
                      · simp only [Act.put, List.setIfInBounds_toArray, List.set_cons_zero, List.set_cons_succ, i64_w, i32_w]
                        rfl
                      refine one_ (i := 2) (N := some 32) #[true, true, true, true, true, false, true, true, false, false, false, false] rfl rfl (one_of HT_.out (by kernel_rfl)) (by decide) (fun K hK => ?_)
                      refine goes_ Tryd.func27 (by kernel_rfl) rfl #[.agg #[.int .u64 a0_0, .int .u64 a0_1, .int .u64 a0_2, .string a0_3, .string a0_4], .agg #[.int .u64 a1_0, .int .u64 a1_1, .int .u64 a1_2, .string a1_3, .string a1_4]] (by rfl) rfl rfl (by (try simp only [List.map_toArray, List.map_cons, List.map_nil]); first | done | rfl | (simp only [List.length_drop, List.length_take]; rfl)) ?_
                      with_reducible refine (Hand.VersionCompare.calls a0_0 a0_1 a0_2 a0_3 a0_4 a1_0 a1_1 a1_2 a1_3 a1_4 t152 _ ?gl23 A36.out).mono ?_
                      case gl23 => (first | exact HG.out | exact Hand.Gl.below HG.out (by repeat (first | (with_reducible first | exact HB.out | apply below_alloc | apply pw_below_drewN | apply below_drew1) | exact HB.out)))
                      rintro e w139 ⟨rfl, hb⟩
                      refine ⟨_, rfl, ?_⟩
                      have n0_ := Aside0.mk (Kd.R_below (by (with_reducible repeat (first | apply Kd.R_alloc | apply Kd.R_drewN | apply Kd.R_drew)); exact HO150.out) hb)
                      have n1_ := Aside0.mk (blk_below (g := gb142) (o := .cells #[.int .u64 a0_0, .int .u64 a0_1, .int .u64 a0_2, .string a0_3, .string a0_4] 29 (0, 0)) (by (with_reducible repeat (first | refine blk_drewN ?_ _ | refine blk_drew ?_ | refine blk_alloc ?_ _)); exact BK142.out) hb)
                      have n2_ := Aside0.mk (blk_below (g := gb143) (o := .cells #[.int .u64 a1_0, .int .u64 a1_1, .int .u64 a1_2, .string a1_3, .string a1_4] 29 (0, 0)) (by (with_reducible repeat (first | refine blk_drewN ?_ _ | refine blk_drew ?_ | refine blk_alloc ?_ _)); exact BK143.out) hb)
                      have n3_ := Aside0.mk (blk_below (g := gb144) (o := .cells #[.int .u64 a2_0, .int .u64 a2_1, .int .u64 a2_2, .string a2_3, .string a2_4] 29 (0, 0)) (by (with_reducible repeat (first | refine blk_drewN ?_ _ | refine blk_drew ?_ | refine blk_alloc ?_ _)); exact BK144.out) hb)
                      have n4_ := Aside0.mk (below_step (by repeat (first | (with_reducible first | exact HB.out | apply below_alloc | apply pw_below_drewN | apply below_drew1 | refine below_set ?_ GE142.out | refine below_set ?_ GE143.out | refine below_set ?_ GE144.out) | exact HB.out)) hb)
                      clear HO150
                      clear BK142
                      clear BK143
                      clear BK144
                      clear HB
                      have HO150 := n0_
                      have BK142 := n1_
                      have BK143 := n2_
                      have BK144 := n3_
                      have HB := n4_
                      clear n0_ n1_ n2_ n3_ n4_
                      (try clear hb)
                      (try clear hb2)
                      (try clear hk)
                      (try clear hi)
                      refine hK.out _ _ ⟨(blk_cell BK142.out 0).trans rfl, (blk_cell BK142.out 1).trans rfl, (blk_cell BK142.out 2).trans rfl, (blk_cell BK142.out 3).trans rfl, (blk_cell BK142.out 4).trans rfl, (blk_cell BK143.out 0).trans rfl, (blk_cell BK143.out 1).trans rfl, (blk_cell BK143.out 2).trans rfl, (blk_cell BK143.out 3).trans rfl, (blk_cell BK143.out 4).trans rfl, (blk_cell BK144.out 0).trans rfl, (blk_cell BK144.out 1).trans rfl, (blk_cell BK144.out 2).trans rfl, (blk_cell BK144.out 3).trans rfl, (blk_cell BK144.out 4).trans rfl⟩ (fun hHeld => ?_)
                      clear hK K
                      refine norm_ (a' := ?_) ?_ ?_
                      rotate_left
                      · show Act.put _ (some 32) _ = _
                        simp only [Act.put, List.setIfInBounds_toArray, List.set_cons_zero, List.set_cons_succ, i64_w, i32_w]
                        rfl
                      refine one_ (i := 5) (N := some 35) #[true, true, true, true, true, true, true, true, false, false, false, false] rfl rfl (one_of HT_.out (by kernel_rfl)) (by decide) (fun K hK => ?_)
                      refine goes_ Tryd.func27 (by kernel_rfl) rfl #[.agg #[.int .u64 a1_0, .int .u64 a1_1, .int .u64 a1_2, .string a1_3, .string a1_4], .agg #[.int .u64 a2_0, .int .u64 a2_1, .int .u64 a2_2, .string a2_3, .string a2_4]] (by rfl) rfl rfl (by (try simp only [List.map_toArray, List.map_cons, List.map_nil]); first | done | rfl | (simp only [List.length_drop, List.length_take]; rfl)) ?_
                      with_reducible refine (Hand.VersionCompare.calls a1_0 a1_1 a1_2 a1_3 a1_4 a2_0 a2_1 a2_2 a2_3 a2_4 t153 _ ?gl24 A37.out).mono ?_
                      case gl24 => (first | exact HG.out | exact Hand.Gl.below HG.out (by repeat (first | (with_reducible first | exact HB.out | apply below_alloc | apply pw_below_drewN | apply below_drew1) | exact HB.out)))
                      rintro e w140 ⟨rfl, hb⟩
                      refine ⟨_, rfl, ?_⟩
                      have n0_ := Aside0.mk (Kd.R_below (by (with_reducible repeat (first | apply Kd.R_alloc | apply Kd.R_drewN | apply Kd.R_drew)); exact HO150.out) hb)
                      have n1_ := Aside0.mk (blk_below (g := gb142) (o := .cells #[.int .u64 a0_0, .int .u64 a0_1, .int .u64 a0_2, .string a0_3, .string a0_4] 29 (0, 0)) (by (with_reducible repeat (first | refine blk_drewN ?_ _ | refine blk_drew ?_ | refine blk_alloc ?_ _)); exact BK142.out) hb)
                      have n2_ := Aside0.mk (blk_below (g := gb143) (o := .cells #[.int .u64 a1_0, .int .u64 a1_1, .int .u64 a1_2, .string a1_3, .string a1_4] 29 (0, 0)) (by (with_reducible repeat (first | refine blk_drewN ?_ _ | refine blk_drew ?_ | refine blk_alloc ?_ _)); exact BK143.out) hb)
                      have n3_ := Aside0.mk (blk_below (g := gb144) (o := .cells #[.int .u64 a2_0, .int .u64 a2_1, .int .u64 a2_2, .string a2_3, .string a2_4] 29 (0, 0)) (by (with_reducible repeat (first | refine blk_drewN ?_ _ | refine blk_drew ?_ | refine blk_alloc ?_ _)); exact BK144.out) hb)
                      have n4_ := Aside0.mk (below_step (by repeat (first | (with_reducible first | exact HB.out | apply below_alloc | apply pw_below_drewN | apply below_drew1 | refine below_set ?_ GE142.out | refine below_set ?_ GE143.out | refine below_set ?_ GE144.out) | exact HB.out)) hb)
                      clear HO150
                      clear BK142
                      clear BK143
                      clear BK144
                      clear HB
                      have HO150 := n0_
                      have BK142 := n1_
                      have BK143 := n2_
                      have BK144 := n3_
                      have HB := n4_
                      clear n0_ n1_ n2_ n3_ n4_
                      (try clear hb)
                      (try clear hb2)
                      (try clear hk)
                      (try clear hi)
                      refine hK.out _ _ ⟨(blk_cell BK142.out 0).trans rfl, (blk_cell BK142.out 1).trans rfl, (blk_cell BK142.out 2).trans rfl, (blk_cell BK142.out 3).trans rfl, (blk_cell BK142.out 4).trans rfl, (blk_cell BK143.out 0).trans rfl, (blk_cell BK143.out 1).trans rfl, (blk_cell BK143.out 2).trans rfl, (blk_cell BK143.out 3).trans rfl, (blk_cell BK143.out 4).trans rfl, (blk_cell BK144.out 0).trans rfl, (blk_cell BK144.out 1).trans rfl, (blk_cell BK144.out 2).trans rfl, (blk_cell BK144.out 3).trans rfl, (blk_cell BK144.out 4).trans rfl⟩ (fun hHeld => ?_)
                      clear hK K
                      refine norm_ (a' := ?_) ?_ ?_
                      rotate_left
                      · show Act.put _ (some 35) _ = _
                        simp only [Act.put, List.setIfInBounds_toArray, List.set_cons_zero, List.set_cons_succ, i64_w, i32_w]
                        rfl
                      refine one_ (i := 8) (N := some 38) #[true, true, true, true, true, true, true, true, true, false, false, false] rfl rfl (one_of HT_.out (by kernel_rfl)) (by decide) (fun K hK => ?_)
                      refine goes_ Tryd.func27 (by kernel_rfl) rfl #[.agg #[.int .u64 a0_0, .int .u64 a0_1, .int .u64 a0_2, .string a0_3, .string a0_4], .agg #[.int .u64 a2_0, .int .u64 a2_1, .int .u64 a2_2, .string a2_3, .string a2_4]] (by rfl) rfl rfl (by (try simp only [List.map_toArray, List.map_cons, List.map_nil]); first | done | rfl | (simp only [List.length_drop, List.length_take]; rfl)) ?_
                      with_reducible refine (Hand.VersionCompare.calls a0_0 a0_1 a0_2 a0_3 a0_4 a2_0 a2_1 a2_2 a2_3 a2_4 t154 _ ?gl25 A38.out).mono ?_
                      case gl25 => (first | exact HG.out | exact Hand.Gl.below HG.out (by repeat (first | (with_reducible first | exact HB.out | apply below_alloc | apply pw_below_drewN | apply below_drew1) | exact HB.out)))
                      rintro e w141 ⟨rfl, hb⟩
                      refine ⟨_, rfl, ?_⟩
                      have n0_ := Aside0.mk (Kd.R_below (by (with_reducible repeat (first | apply Kd.R_alloc | apply Kd.R_drewN | apply Kd.R_drew)); exact HO150.out) hb)
                      have n1_ := Aside0.mk (blk_below (g := gb142) (o := .cells #[.int .u64 a0_0, .int .u64 a0_1, .int .u64 a0_2, .string a0_3, .string a0_4] 29 (0, 0)) (by (with_reducible repeat (first | refine blk_drewN ?_ _ | refine blk_drew ?_ | refine blk_alloc ?_ _)); exact BK142.out) hb)
                      have n2_ := Aside0.mk (blk_below (g := gb143) (o := .cells #[.int .u64 a1_0, .int .u64 a1_1, .int .u64 a1_2, .string a1_3, .string a1_4] 29 (0, 0)) (by (with_reducible repeat (first | refine blk_drewN ?_ _ | refine blk_drew ?_ | refine blk_alloc ?_ _)); exact BK143.out) hb)
                      have n3_ := Aside0.mk (blk_below (g := gb144) (o := .cells #[.int .u64 a2_0, .int .u64 a2_1, .int .u64 a2_2, .string a2_3, .string a2_4] 29 (0, 0)) (by (with_reducible repeat (first | refine blk_drewN ?_ _ | refine blk_drew ?_ | refine blk_alloc ?_ _)); exact BK144.out) hb)
                      have n4_ := Aside0.mk (below_step (by repeat (first | (with_reducible first | exact HB.out | apply below_alloc | apply pw_below_drewN | apply below_drew1 | refine below_set ?_ GE142.out | refine below_set ?_ GE143.out | refine below_set ?_ GE144.out) | exact HB.out)) hb)
                      clear HO150
                      clear BK142
                      clear BK143
                      clear BK144
                      clear HB
                      have HO150 := n0_
                      have BK142 := n1_
                      have BK143 := n2_
                      have BK144 := n3_
                      have HB := n4_
                      clear n0_ n1_ n2_ n3_ n4_
                      (try clear hb)
                      (try clear hb2)
                      (try clear hk)
                      (try clear hi)
                      refine hK.out _ _ ⟨(blk_cell BK142.out 0).trans rfl, (blk_cell BK142.out 1).trans rfl, (blk_cell BK142.out 2).trans rfl, (blk_cell BK142.out 3).trans rfl, (blk_cell BK142.out 4).trans rfl, (blk_cell BK143.out 0).trans rfl, (blk_cell BK143.out 1).trans rfl, (blk_cell BK143.out 2).trans rfl, (blk_cell BK143.out 3).trans rfl, (blk_cell BK143.out 4).trans rfl, (blk_cell BK144.out 0).trans rfl, (blk_cell BK144.out 1).trans rfl, (blk_cell BK144.out 2).trans rfl, (blk_cell BK144.out 3).trans rfl, (blk_cell BK144.out 4).trans rfl⟩ (fun hHeld => ?_)
                      clear hK K
                      refine norm_ (a' := ?_) ?_ ?_
                      rotate_left
                      · show Act.put _ (some 38) _ = _
                        simp only [Act.put, List.setIfInBounds_toArray, List.set_cons_zero, List.set_cons_succ, i64_w, i32_w]
                        rfl
                      refine pure_ (i := 9) (N := some 7) (v := ?_) (a' := ?_) #[true, true, true, true, true, true, true, true, true, true, false, false] rfl rfl (any_of HT_.out (by kernel_rfl)) (fun _ _ _ h => h) (Or.inl ⟨by rfl, ?_⟩) ?_ ?_
                      rotate_left
                      · intro w'
                        go_simp
                        with_reducible rfl
                      rotate_left
                      · simp only [Act.put, List.setIfInBounds_toArray, List.set_cons_zero, List.set_cons_succ, i64_w, i32_w]
                        rfl
                      refine pure_ (i := 10) (N := some 8) (v := ?_) (a' := ?_) #[true, true, true, true, true, true, true, true, true, true, true, false] rfl rfl (any_of HT_.out (by kernel_rfl)) (fun _ _ _ h => h) (Or.inl ⟨by rfl, ?_⟩) ?_ ?_
                      rotate_left
                      · intro w'
                        go_simp
                        with_reducible rfl
                      rotate_left
                      · simp only [Act.put, List.setIfInBounds_toArray, List.set_cons_zero, List.set_cons_succ, i64_w, i32_w]
                        rfl
                      refine pure_ (i := 11) (N := some 9) (v := ?_) (a' := ?_) #[true, true, true, true, true, true, true, true, true, true, true, true] rfl rfl (any_of HT_.out (by kernel_rfl)) (fun _ _ _ h => h) (Or.inl ⟨by rfl, ?_⟩) ?_ ?_
                      rotate_left
                      · intro w'
                        go_simp
                        with_reducible rfl
                      rotate_left
                      · simp only [Act.put, List.setIfInBounds_toArray, List.set_cons_zero, List.set_cons_succ, i64_w, i32_w]
                        rfl
                      refine done_ (done_of HT_.out (by kernel_rfl)) ?_
                      try go_wp2
                      have n0_ := Aside0.mk (Kd.R_drew HO150.out)
                      have n1_ := Aside0.mk (blk_drew BK142.out)
                      have n2_ := Aside0.mk (blk_drew BK143.out)
                      have n3_ := Aside0.mk (blk_drew BK144.out)
                      have n4_ := Aside0.mk (below_drew1 HB.out)
                      clear HO150
                      clear BK142
                      clear BK143
                      clear BK144
                      clear HB
                      have HO150 := n0_
                      have BK142 := n1_
                      have BK143 := n2_
                      have BK144 := n3_
                      have HB := n4_
                      clear n0_ n1_ n2_ n3_ n4_
                      refine start_ (n := 6) (S := fun w' => w'.cell? ⟨gb142, 0, none⟩ = some (.int .u64 a0_0) ∧ w'.cell? ⟨gb142, 1, none⟩ = some (.int .u64 a0_1) ∧ w'.cell? ⟨gb142, 2, none⟩ = some (.int .u64 a0_2) ∧ w'.cell? ⟨gb142, 3, none⟩ = some (.string a0_3) ∧ w'.cell? ⟨gb142, 4, none⟩ = some (.string a0_4) ∧ w'.cell? ⟨gb143, 0, none⟩ = some (.int .u64 a1_0) ∧ w'.cell? ⟨gb143, 1, none⟩ = some (.int .u64 a1_1) ∧ w'.cell? ⟨gb143, 2, none⟩ = some (.int .u64 a1_2) ∧ w'.cell? ⟨gb143, 3, none⟩ = some (.string a1_3) ∧ w'.cell? ⟨gb143, 4, none⟩ = some (.string a1_4)) (ds := []) #[false, false, false, false, false, false] (by kernel_rfl) rfl rfl ⟨(blk_cell BK142.out 0).trans rfl, (blk_cell BK142.out 1).trans rfl, (blk_cell BK142.out 2).trans rfl, (blk_cell BK142.out 3).trans rfl, (blk_cell BK142.out 4).trans rfl, (blk_cell BK143.out 0).trans rfl, (blk_cell BK143.out 1).trans rfl, (blk_cell BK143.out 2).trans rfl, (blk_cell BK143.out 3).trans rfl, (blk_cell BK143.out 4).trans rfl⟩ (fun hHeld => ?_)
                      generalize w141.drew = w142 at HO150 BK142 BK143 BK144 HB hHeld ⊢
                      refine take_ (i := 0) (N := some 39) (v := ?_) (a' := ?_) #[true, false, false, false, false, false] rfl rfl (by kernel_rfl) (fun _ _ _ h => h) (Or.inl ⟨by rfl, ?_⟩) hHeld ?_ ?_
                      rotate_left
                      · rintro w' ⟨s0, s1, s2, s3, s4, s5, s6, s7, s8, s9⟩
                        go_simp
                        with_reducible rfl
                      rotate_left
                      · simp only [Act.put, List.setIfInBounds_toArray, List.set_cons_zero, List.set_cons_succ, i64_w, i32_w]
                        rfl
                      refine take_ (i := 2) (N := some 41) (v := ?_) (a' := ?_) #[true, false, true, false, false, false] rfl rfl (by kernel_rfl) (fun _ _ _ h => h) (Or.inl ⟨by rfl, ?_⟩) hHeld ?_ ?_
                      rotate_left
                      · rintro w' ⟨s0, s1, s2, s3, s4, s5, s6, s7, s8, s9⟩
                        go_simp
                        with_reducible rfl
                      rotate_left
                      · simp only [Act.put, List.setIfInBounds_toArray, List.set_cons_zero, List.set_cons_succ, i64_w, i32_w]
                        rfl
                      refine one_ (i := 1) (N := some 40) #[true, true, true, false, false, false] rfl rfl (by kernel_rfl) (by decide) (fun K hK => ?_)
                      refine goes_ Tryd.func28 (by kernel_rfl) rfl #[.agg #[.int .u64 a0_0, .int .u64 a0_1, .int .u64 a0_2, .string a0_3, .string a0_4], .string (⟨#[]⟩ : ByteArray)] (by rfl) rfl rfl (by (try simp only [List.map_toArray, List.map_cons, List.map_nil]); first | done | rfl | (simp only [List.length_drop, List.length_take]; rfl)) ?_
                      with_reducible refine (laws_svMeta.calls a0_0 a0_1 a0_2 a0_3 a0_4 (⟨#[]⟩ : ByteArray) t155 t156 t157 t158 t159 _ A39.out).mono ?_
                      rintro e w143 ⟨rfl, hb⟩
                      refine ⟨_, rfl, ?_⟩
                      have n0_ := Aside0.mk (Kd.R_below (by (with_reducible repeat (first | apply Kd.R_alloc | apply Kd.R_drewN | apply Kd.R_drew)); exact HO150.out) hb)
                      have n1_ := Aside0.mk (blk_below (g := gb142) (o := .cells #[.int .u64 a0_0, .int .u64 a0_1, .int .u64 a0_2, .string a0_3, .string a0_4] 29 (0, 0)) (by (with_reducible repeat (first | refine blk_drewN ?_ _ | refine blk_drew ?_ | refine blk_alloc ?_ _)); exact BK142.out) hb)
                      have n2_ := Aside0.mk (blk_below (g := gb143) (o := .cells #[.int .u64 a1_0, .int .u64 a1_1, .int .u64 a1_2, .string a1_3, .string a1_4] 29 (0, 0)) (by (with_reducible repeat (first | refine blk_drewN ?_ _ | refine blk_drew ?_ | refine blk_alloc ?_ _)); exact BK143.out) hb)
                      have n3_ := Aside0.mk (blk_below (g := gb144) (o := .cells #[.int .u64 a2_0, .int .u64 a2_1, .int .u64 a2_2, .string a2_3, .string a2_4] 29 (0, 0)) (by (with_reducible repeat (first | refine blk_drewN ?_ _ | refine blk_drew ?_ | refine blk_alloc ?_ _)); exact BK144.out) hb)
                      have n4_ := Aside0.mk (below_step (by repeat (first | (with_reducible first | exact HB.out | apply below_alloc | apply pw_below_drewN | apply below_drew1 | refine below_set ?_ GE142.out | refine below_set ?_ GE143.out | refine below_set ?_ GE144.out) | exact HB.out)) hb)
                      clear HO150
                      clear BK142
                      clear BK143
                      clear BK144
                      clear HB
                      have HO150 := n0_
                      have BK142 := n1_
                      have BK143 := n2_
                      have BK144 := n3_
                      have HB := n4_
                      clear n0_ n1_ n2_ n3_ n4_
                      (try clear hb)
                      (try clear hb2)
                      (try clear hk)
                      (try clear hi)
                      refine hK.out _ _ ⟨(blk_cell BK142.out 0).trans rfl, (blk_cell BK142.out 1).trans rfl, (blk_cell BK142.out 2).trans rfl, (blk_cell BK142.out 3).trans rfl, (blk_cell BK142.out 4).trans rfl, (blk_cell BK143.out 0).trans rfl, (blk_cell BK143.out 1).trans rfl, (blk_cell BK143.out 2).trans rfl, (blk_cell BK143.out 3).trans rfl, (blk_cell BK143.out 4).trans rfl⟩ (fun hHeld => ?_)
                      clear hK K
                      refine norm_ (a' := ?_) ?_ ?_
                      rotate_left
                      · show Act.put _ (some 40) _ = _
                        simp only [Act.put, List.setIfInBounds_toArray, List.set_cons_zero, List.set_cons_succ, i64_w, i32_w]
                        rfl
                      refine one_ (i := 3) (N := some 42) #[true, true, true, true, false, false] rfl rfl (by kernel_rfl) (by decide) (fun K hK => ?_)
                      refine goes_ Tryd.func28 (by kernel_rfl) rfl #[.agg #[.int .u64 a1_0, .int .u64 a1_1, .int .u64 a1_2, .string a1_3, .string a1_4], .string (⟨#[]⟩ : ByteArray)] (by rfl) rfl rfl (by (try simp only [List.map_toArray, List.map_cons, List.map_nil]); first | done | rfl | (simp only [List.length_drop, List.length_take]; rfl)) ?_
                      with_reducible refine (laws_svMeta.calls a1_0 a1_1 a1_2 a1_3 a1_4 (⟨#[]⟩ : ByteArray) t160 t161 t162 t163 t164 _ A40.out).mono ?_
                      rintro e w144 ⟨rfl, hb⟩
                      refine ⟨_, rfl, ?_⟩
                      have n0_ := Aside0.mk (Kd.R_below (by (with_reducible repeat (first | apply Kd.R_alloc | apply Kd.R_drewN | apply Kd.R_drew)); exact HO150.out) hb)
                      have n1_ := Aside0.mk (blk_below (g := gb142) (o := .cells #[.int .u64 a0_0, .int .u64 a0_1, .int .u64 a0_2, .string a0_3, .string a0_4] 29 (0, 0)) (by (with_reducible repeat (first | refine blk_drewN ?_ _ | refine blk_drew ?_ | refine blk_alloc ?_ _)); exact BK142.out) hb)
                      have n2_ := Aside0.mk (blk_below (g := gb143) (o := .cells #[.int .u64 a1_0, .int .u64 a1_1, .int .u64 a1_2, .string a1_3, .string a1_4] 29 (0, 0)) (by (with_reducible repeat (first | refine blk_drewN ?_ _ | refine blk_drew ?_ | refine blk_alloc ?_ _)); exact BK143.out) hb)
                      have n3_ := Aside0.mk (blk_below (g := gb144) (o := .cells #[.int .u64 a2_0, .int .u64 a2_1, .int .u64 a2_2, .string a2_3, .string a2_4] 29 (0, 0)) (by (with_reducible repeat (first | refine blk_drewN ?_ _ | refine blk_drew ?_ | refine blk_alloc ?_ _)); exact BK144.out) hb)
                      have n4_ := Aside0.mk (below_step (by repeat (first | (with_reducible first | exact HB.out | apply below_alloc | apply pw_below_drewN | apply below_drew1 | refine below_set ?_ GE142.out | refine below_set ?_ GE143.out | refine below_set ?_ GE144.out) | exact HB.out)) hb)
                      clear HO150
                      clear BK142
                      clear BK143
                      clear BK144
                      clear HB
                      have HO150 := n0_
                      have BK142 := n1_
                      have BK143 := n2_
                      have BK144 := n3_
                      have HB := n4_
                      clear n0_ n1_ n2_ n3_ n4_
                      (try clear hb)
                      (try clear hb2)
                      (try clear hk)
                      (try clear hi)
                      refine hK.out _ _ ⟨(blk_cell BK142.out 0).trans rfl, (blk_cell BK142.out 1).trans rfl, (blk_cell BK142.out 2).trans rfl, (blk_cell BK142.out 3).trans rfl, (blk_cell BK142.out 4).trans rfl, (blk_cell BK143.out 0).trans rfl, (blk_cell BK143.out 1).trans rfl, (blk_cell BK143.out 2).trans rfl, (blk_cell BK143.out 3).trans rfl, (blk_cell BK143.out 4).trans rfl⟩ (fun hHeld => ?_)
                      clear hK K
                      refine norm_ (a' := ?_) ?_ ?_
                      rotate_left
                      · show Act.put _ (some 42) _ = _
                        simp only [Act.put, List.setIfInBounds_toArray, List.set_cons_zero, List.set_cons_succ, i64_w, i32_w]
                        rfl
                      refine pure_ (i := 4) (N := some 43) (v := ?_) (a' := ?_) #[true, true, true, true, true, false] rfl rfl (by kernel_rfl) (fun _ _ _ h => h) (Or.inl ⟨by rfl, ?_⟩) ?_ ?_
                      rotate_left
                      · intro w'
                        go_simp
                        with_reducible rfl
                      rotate_left
                      · simp only [Act.put, List.setIfInBounds_toArray, List.set_cons_zero, List.set_cons_succ, i64_w, i32_w]
                        rfl
                      refine pure_ (i := 5) (N := some 10) (v := ?_) (a' := ?_) #[true, true, true, true, true, true] rfl rfl (by kernel_rfl) (fun _ _ _ h => h) (Or.inl ⟨by rfl, ?_⟩) ?_ ?_
                      rotate_left
                      · intro w'
                        go_simp
                        with_reducible rfl
                      rotate_left
                      · simp only [Act.put, List.setIfInBounds_toArray, List.set_cons_zero, List.set_cons_succ, i64_w, i32_w]
                        rfl
                      refine done_ (by kernel_rfl) ?_
                      have hcz145_0 : w144.cell? ⟨gb143, 0, none⟩ = some (.int .u64 a1_0) := (blk_cell BK143.out 0).trans rfl
                      have hcz145_1 : w144.cell? ⟨gb143, 1, none⟩ = some (.int .u64 a1_1) := (blk_cell BK143.out 1).trans rfl
                      have hcz145_2 : w144.cell? ⟨gb143, 2, none⟩ = some (.int .u64 a1_2) := (blk_cell BK143.out 2).trans rfl
                      have hcz145_3 : w144.cell? ⟨gb143, 3, none⟩ = some (.string a1_3) := (blk_cell BK143.out 3).trans rfl
                      have hcz145_4 : w144.cell? ⟨gb143, 4, none⟩ = some (.string a1_4) := (blk_cell BK143.out 4).trans rfl
                      have hfz145_0 := blk_frozen BK143.out 0
                      have hfz145_1 := blk_frozen BK143.out 1
                      have hfz145_2 := blk_frozen BK143.out 2
                      have hfz145_3 := blk_frozen BK143.out 3
                      have hfz145_4 := blk_frozen BK143.out 4
                      have hcz146_0 : w144.cell? ⟨gb142, 0, none⟩ = some (.int .u64 a0_0) := (blk_cell BK142.out 0).trans rfl
                      have hcz146_1 : w144.cell? ⟨gb142, 1, none⟩ = some (.int .u64 a0_1) := (blk_cell BK142.out 1).trans rfl
                      have hcz146_2 : w144.cell? ⟨gb142, 2, none⟩ = some (.int .u64 a0_2) := (blk_cell BK142.out 2).trans rfl
                      have hcz146_3 : w144.cell? ⟨gb142, 3, none⟩ = some (.string a0_3) := (blk_cell BK142.out 3).trans rfl
                      have hcz146_4 : w144.cell? ⟨gb142, 4, none⟩ = some (.string a0_4) := (blk_cell BK142.out 4).trans rfl
                      have hfz146_0 := blk_frozen BK142.out 0
                      have hfz146_1 := blk_frozen BK142.out 1
                      have hfz146_2 := blk_frozen BK142.out 2
                      have hfz146_3 := blk_frozen BK142.out 3
                      have hfz146_4 := blk_frozen BK142.out 4
                      try go_wp2_with (first | ((with_reducible refine gate_callee (f := 27) rfl ?_); refine goesL_ (some 46) rfl rfl Tryd.func27 (by kernel_rfl) rfl #[.agg #[.int .u64 a1_0, .int .u64 a1_1, .int .u64 a1_2, .string a1_3, .string a1_4], .agg #[.int .u64 a0_0, .int .u64 a0_1, .int .u64 a0_2, .string a0_3, .string a0_4]] rfl (by (try simp only [List.map_toArray, List.map_cons, List.map_nil]); first | done | rfl | (simp only [List.length_drop, List.length_take]; rfl)) ?_; (with_reducible refine (Hand.VersionCompare.calls a1_0 a1_1 a1_2 a1_3 a1_4 a0_0 a0_1 a0_2 a0_3 a0_4 t165 _ ?gl5 A41.out).mono ?_); (case gl5 => first | exact HG.out | exact Hand.Gl.below HG.out (by repeat (first | (with_reducible first | exact HB.out | apply below_alloc | apply pw_below_drewN | apply below_drew1) | exact HB.out))); rintro e w147 ⟨rfl, hb⟩; refine ⟨_, rfl, ?_⟩; have n0_ := Aside0.mk (Kd.R_below (by (with_reducible repeat (first | apply Kd.R_alloc | apply Kd.R_drewN | apply Kd.R_drew)); exact HO150.out) hb); have n1_ := Aside0.mk (blk_below (g := gb142) (o := .cells #[.int .u64 a0_0, .int .u64 a0_1, .int .u64 a0_2, .string a0_3, .string a0_4] 29 (0, 0)) (by (with_reducible repeat (first | refine blk_drewN ?_ _ | refine blk_drew ?_ | refine blk_alloc ?_ _)); exact BK142.out) hb); have n2_ := Aside0.mk (blk_below (g := gb143) (o := .cells #[.int .u64 a1_0, .int .u64 a1_1, .int .u64 a1_2, .string a1_3, .string a1_4] 29 (0, 0)) (by (with_reducible repeat (first | refine blk_drewN ?_ _ | refine blk_drew ?_ | refine blk_alloc ?_ _)); exact BK143.out) hb); have n3_ := Aside0.mk (blk_below (g := gb144) (o := .cells #[.int .u64 a2_0, .int .u64 a2_1, .int .u64 a2_2, .string a2_3, .string a2_4] 29 (0, 0)) (by (with_reducible repeat (first | refine blk_drewN ?_ _ | refine blk_drew ?_ | refine blk_alloc ?_ _)); exact BK144.out) hb); have n4_ := Aside0.mk (below_step (by repeat (first | (with_reducible first | exact HB.out | apply below_alloc | apply pw_below_drewN | apply below_drew1 | refine below_set ?_ GE142.out | refine below_set ?_ GE143.out | refine below_set ?_ GE144.out) | exact HB.out)) hb); clear HO150; clear BK142; clear BK143; clear BK144; clear HB; have HO150 := n0_; have BK142 := n1_; have BK143 := n2_; have BK144 := n3_; have HB := n4_; clear n0_ n1_ n2_ n3_ n4_; (try clear hb); (try clear hb2); (try clear hk); (try clear hi)))
                      go_ret
                      exact ⟨by first | rfl | (simp [errW_none, errW_some] <;> rfl) | (simp [*, errW_none, errW_some] <;> rfl), by repeat (first | (with_reducible first | exact HB.out | apply below_alloc | apply pw_below_drewN | apply below_drew1 | refine below_set ?_ GE142.out | refine below_set ?_ GE143.out | refine below_set ?_ GE144.out) | exact HB.out)⟩
                    · rw [if_neg c127] at H
                      have c127b0 : decide (0 < t153) = false := decide_eq_false c127
                      clear c127
                      by_cases c148 : t154 ≤ 0
                      · rw [if_pos c148] at H
                        have c148b0 : decide (t154 ≤ 0) = true := decide_eq_true c148
                        clear c148
                        by_cases c149 : t154 < 0
                        · rw [if_pos c149] at H
                          have c149b0 : decide (t154 < 0) = true := decide_eq_true c149
                          clear c149
                          obtain rfl := Option.some.inj H
                          have hnb150 := NB142_143.out
                          have hnc150 := NB143_142.out
                          have hnb151 := NB142_144.out
                          have hnc151 := NB144_142.out
                          have hcz152_0 : wc.cell? ⟨gb142, 0, none⟩ = some (.int .u64 a0_0) := (blk_cell BK142.out 0).trans rfl
                          have hcz152_1 : wc.cell? ⟨gb142, 1, none⟩ = some (.int .u64 a0_1) := (blk_cell BK142.out 1).trans rfl
                          have hcz152_2 : wc.cell? ⟨gb142, 2, none⟩ = some (.int .u64 a0_2) := (blk_cell BK142.out 2).trans rfl
                          have hcz152_3 : wc.cell? ⟨gb142, 3, none⟩ = some (.string a0_3) := (blk_cell BK142.out 3).trans rfl
                          have hcz152_4 : wc.cell? ⟨gb142, 4, none⟩ = some (.string a0_4) := (blk_cell BK142.out 4).trans rfl
                          have hfz152_0 := blk_frozen BK142.out 0
                          have hfz152_1 := blk_frozen BK142.out 1
                          have hfz152_2 := blk_frozen BK142.out 2
                          have hfz152_3 := blk_frozen BK142.out 3
                          have hfz152_4 := blk_frozen BK142.out 4
                          have hnb153 := NB143_144.out
                          have hnc153 := NB144_143.out
                          have hcz154_0 : wc.cell? ⟨gb143, 0, none⟩ = some (.int .u64 a1_0) := (blk_cell BK143.out 0).trans rfl
                          have hcz154_1 : wc.cell? ⟨gb143, 1, none⟩ = some (.int .u64 a1_1) := (blk_cell BK143.out 1).trans rfl
                          have hcz154_2 : wc.cell? ⟨gb143, 2, none⟩ = some (.int .u64 a1_2) := (blk_cell BK143.out 2).trans rfl
                          have hcz154_3 : wc.cell? ⟨gb143, 3, none⟩ = some (.string a1_3) := (blk_cell BK143.out 3).trans rfl
                          have hcz154_4 : wc.cell? ⟨gb143, 4, none⟩ = some (.string a1_4) := (blk_cell BK143.out 4).trans rfl
                          have hfz154_0 := blk_frozen BK143.out 0
                          have hfz154_1 := blk_frozen BK143.out 1
                          have hfz154_2 := blk_frozen BK143.out 2
                          have hfz154_3 := blk_frozen BK143.out 3
                          have hfz154_4 := blk_frozen BK143.out 4
                          have hcz155_0 : wc.cell? ⟨gb144, 0, none⟩ = some (.int .u64 a2_0) := (blk_cell BK144.out 0).trans rfl
                          have hcz155_1 : wc.cell? ⟨gb144, 1, none⟩ = some (.int .u64 a2_1) := (blk_cell BK144.out 1).trans rfl
                          have hcz155_2 : wc.cell? ⟨gb144, 2, none⟩ = some (.int .u64 a2_2) := (blk_cell BK144.out 2).trans rfl
                          have hcz155_3 : wc.cell? ⟨gb144, 3, none⟩ = some (.string a2_3) := (blk_cell BK144.out 3).trans rfl
                          have hcz155_4 : wc.cell? ⟨gb144, 4, none⟩ = some (.string a2_4) := (blk_cell BK144.out 4).trans rfl
                          have hfz155_0 := blk_frozen BK144.out 0
                          have hfz155_1 := blk_frozen BK144.out 1
                          have hfz155_2 := blk_frozen BK144.out 2
                          have hfz155_3 := blk_frozen BK144.out 3
                          have hfz155_4 := blk_frozen BK144.out 4
                          try go_wp2_with (first | ((with_reducible refine gate_dst (N := 27) rfl ?_); refine Kd.R_lit k29 _ 29 ?hg (N := 27) ?hd (xs := ([(⟨a0_0, a0_1, a0_2, a0_3, a0_4⟩ : S29), (⟨a1_0, a1_1, a1_2, a1_3, a1_4⟩ : S29), (⟨a2_0, a2_1, a2_2, a2_3, a2_4⟩ : S29)] : List (S29))) (inner := [.int .u64 a0_0, .int .u64 a0_1, .int .u64 a0_2, .string a0_3, .string a0_4, .int .u64 a1_0, .int .u64 a1_1, .int .u64 a1_2, .string a1_3, .string a1_4, .int .u64 a2_0, .int .u64 a2_1, .int .u64 a2_2, .string a2_3, .string a2_4]) (ok := fun _ => True) (okp := fun _ => True) ?hr ?hp (fun _ hk => hk) trivial (Below.refl _ _) (Nat.le_refl _) (by simp) ?_; (case hd => rfl); (case hg => rfl); (case hr => first | (go_simp; done) | (go_simp; rfl)); (case hp => exact (Reps.c5 (show Kd.M k29 _ _ _ (⟨a0_0, a0_1, a0_2, a0_3, a0_4⟩ : S29) [.int .u64 a0_0, .int .u64 a0_1, .int .u64 a0_2, .string a0_3, .string a0_4] from (k29_mkM _ _ _ (⟨a0_0, a0_1, a0_2, a0_3, a0_4⟩ : S29) )) (Reps.c5 (show Kd.M k29 _ _ _ (⟨a1_0, a1_1, a1_2, a1_3, a1_4⟩ : S29) [.int .u64 a1_0, .int .u64 a1_1, .int .u64 a1_2, .string a1_3, .string a1_4] from (k29_mkM _ _ _ (⟨a1_0, a1_1, a1_2, a1_3, a1_4⟩ : S29) )) (Reps.c5 (show Kd.M k29 _ _ _ (⟨a2_0, a2_1, a2_2, a2_3, a2_4⟩ : S29) [.int .u64 a2_0, .int .u64 a2_1, .int .u64 a2_2, .string a2_3, .string a2_4] from (k29_mkM _ _ _ (⟨a2_0, a2_1, a2_2, a2_3, a2_4⟩ : S29) )) (Reps.none _ _))))); intro v149 w156 ho157 hb hg_ hnew_; clear hg_ hnew_; (first | rw [← Ny148.out] at ho157 | (simp only [Int.reduceToNat] at ho157; rw [← Ny148.out] at ho157)); have n0_ := Aside0.mk (Kd.R_lower (Kd.R_newB (Kd.R_newB (Kd.R_newB ho157 (g := gb142) (o := .cells #[.int .u64 a0_0, .int .u64 a0_1, .int .u64 a0_2, .string a0_3, .string a0_4] 29 (0, 0)) (by (with_reducible repeat (first | refine blk_drewN ?_ _ | refine blk_drew ?_ | refine blk_alloc ?_ _)); exact BK142.out)) (g := gb143) (o := .cells #[.int .u64 a1_0, .int .u64 a1_1, .int .u64 a1_2, .string a1_3, .string a1_4] 29 (0, 0)) (by (with_reducible repeat (first | refine blk_drewN ?_ _ | refine blk_drew ?_ | refine blk_alloc ?_ _)); exact BK143.out)) (g := gb144) (o := .cells #[.int .u64 a2_0, .int .u64 a2_1, .int .u64 a2_2, .string a2_3, .string a2_4] 29 (0, 0)) (by (with_reducible repeat (first | refine blk_drewN ?_ _ | refine blk_drew ?_ | refine blk_alloc ?_ _)); exact BK144.out)) (below_size (by repeat (first | (with_reducible first | exact HB.out | apply below_alloc | apply pw_below_drewN | apply below_drew1 | refine below_set ?_ GE142.out | refine below_set ?_ GE143.out | refine below_set ?_ GE144.out) | exact HB.out)))); have n1_ := Aside0.mk (blk_below (g := gb142) (o := .cells #[.int .u64 a0_0, .int .u64 a0_1, .int .u64 a0_2, .string a0_3, .string a0_4] 29 (0, 0)) (by (with_reducible repeat (first | refine blk_drewN ?_ _ | refine blk_drew ?_ | refine blk_alloc ?_ _)); exact BK142.out) hb); have n2_ := Aside0.mk (blk_below (g := gb143) (o := .cells #[.int .u64 a1_0, .int .u64 a1_1, .int .u64 a1_2, .string a1_3, .string a1_4] 29 (0, 0)) (by (with_reducible repeat (first | refine blk_drewN ?_ _ | refine blk_drew ?_ | refine blk_alloc ?_ _)); exact BK143.out) hb); have n3_ := Aside0.mk (blk_below (g := gb144) (o := .cells #[.int .u64 a2_0, .int .u64 a2_1, .int .u64 a2_2, .string a2_3, .string a2_4] 29 (0, 0)) (by (with_reducible repeat (first | refine blk_drewN ?_ _ | refine blk_drew ?_ | refine blk_alloc ?_ _)); exact BK144.out) hb); have n4_ := Aside0.mk (below_step (by repeat (first | (with_reducible first | exact HB.out | apply below_alloc | apply pw_below_drewN | apply below_drew1 | refine below_set ?_ GE142.out | refine below_set ?_ GE143.out | refine below_set ?_ GE144.out) | exact HB.out)) hb); clear BK142; clear BK143; clear BK144; clear HB; have HO150 := n0_; have BK142 := n1_; have BK143 := n2_; have BK144 := n3_; have HB := n4_; clear n0_ n1_ n2_ n3_ n4_; clear hb ho157; obtain ⟨Ao158, co158, eo158⟩ := Kd.R_slice HO150.out; subst eo158) | ((with_reducible refine gate_callee (f := 26) rfl ?_); refine goesL_ (some 28) rfl rfl Tryd.func26 (by kernel_rfl) rfl #[.slice Ao158 y148.length co158] rfl (by (try simp only [List.map_toArray, List.map_cons, List.map_nil]); first | done | rfl | (simp only [List.length_drop, List.length_take]; rfl)) ?_; (with_reducible refine (laws_svGood.calls kj3 _ _ y148 true _ ?side1 ?side2 A34.out).mono ?_); (case side1 => repeat (first | exact (Kd.R_reads' HO150.out).2.2 | (with_reducible refine Kd.C_alloc ?_ _) | (with_reducible refine Kd.C_drewN ?_ _) | (with_reducible refine Kd.C_drew ?_))); (case side2 => exact (Kd.R_reads' HO150.out).2.1); rintro e w159 ⟨rfl, hb⟩; refine ⟨_, rfl, ?_⟩; have n0_ := Aside0.mk (Kd.R_below (by (with_reducible repeat (first | apply Kd.R_alloc | apply Kd.R_drewN | apply Kd.R_drew)); exact HO150.out) hb); have n1_ := Aside0.mk (blk_below (g := gb142) (o := .cells #[.int .u64 a0_0, .int .u64 a0_1, .int .u64 a0_2, .string a0_3, .string a0_4] 29 (0, 0)) (by (with_reducible repeat (first | refine blk_drewN ?_ _ | refine blk_drew ?_ | refine blk_alloc ?_ _)); exact BK142.out) hb); have n2_ := Aside0.mk (blk_below (g := gb143) (o := .cells #[.int .u64 a1_0, .int .u64 a1_1, .int .u64 a1_2, .string a1_3, .string a1_4] 29 (0, 0)) (by (with_reducible repeat (first | refine blk_drewN ?_ _ | refine blk_drew ?_ | refine blk_alloc ?_ _)); exact BK143.out) hb); have n3_ := Aside0.mk (blk_below (g := gb144) (o := .cells #[.int .u64 a2_0, .int .u64 a2_1, .int .u64 a2_2, .string a2_3, .string a2_4] 29 (0, 0)) (by (with_reducible repeat (first | refine blk_drewN ?_ _ | refine blk_drew ?_ | refine blk_alloc ?_ _)); exact BK144.out) hb); have n4_ := Aside0.mk (below_step (by repeat (first | (with_reducible first | exact HB.out | apply below_alloc | apply pw_below_drewN | apply below_drew1 | refine below_set ?_ GE142.out | refine below_set ?_ GE143.out | refine below_set ?_ GE144.out) | exact HB.out)) hb); clear HO150; clear BK142; clear BK143; clear BK144; clear HB; have HO150 := n0_; have BK142 := n1_; have BK143 := n2_; have BK144 := n3_; have HB := n4_; clear n0_ n1_ n2_ n3_ n4_; (try clear hb); (try clear hb2); (try clear hk); (try clear hi)))
                          have n0_ := Aside0.mk (Kd.R_drew HO150.out)
                          have n1_ := Aside0.mk (blk_drew BK142.out)
                          have n2_ := Aside0.mk (blk_drew BK143.out)
                          have n3_ := Aside0.mk (blk_drew BK144.out)
                          have n4_ := Aside0.mk (below_drew1 HB.out)
                          clear HO150
                          clear BK142
                          clear BK143
                          clear BK144
                          clear HB
                          have HO150 := n0_
                          have BK142 := n1_
                          have BK143 := n2_
                          have BK144 := n3_
                          have HB := n4_
                          clear n0_ n1_ n2_ n3_ n4_
                          refine start_ (n := 12) (S := fun w' => w'.cell? ⟨gb142, 0, none⟩ = some (.int .u64 a0_0) ∧ w'.cell? ⟨gb142, 1, none⟩ = some (.int .u64 a0_1) ∧ w'.cell? ⟨gb142, 2, none⟩ = some (.int .u64 a0_2) ∧ w'.cell? ⟨gb142, 3, none⟩ = some (.string a0_3) ∧ w'.cell? ⟨gb142, 4, none⟩ = some (.string a0_4) ∧ w'.cell? ⟨gb143, 0, none⟩ = some (.int .u64 a1_0) ∧ w'.cell? ⟨gb143, 1, none⟩ = some (.int .u64 a1_1) ∧ w'.cell? ⟨gb143, 2, none⟩ = some (.int .u64 a1_2) ∧ w'.cell? ⟨gb143, 3, none⟩ = some (.string a1_3) ∧ w'.cell? ⟨gb143, 4, none⟩ = some (.string a1_4) ∧ w'.cell? ⟨gb144, 0, none⟩ = some (.int .u64 a2_0) ∧ w'.cell? ⟨gb144, 1, none⟩ = some (.int .u64 a2_1) ∧ w'.cell? ⟨gb144, 2, none⟩ = some (.int .u64 a2_2) ∧ w'.cell? ⟨gb144, 3, none⟩ = some (.string a2_3) ∧ w'.cell? ⟨gb144, 4, none⟩ = some (.string a2_4)) (ds := []) #[false, false, false, false, false, false, false, false, false, false, false, false] (by kernel_rfl) rfl rfl ⟨(blk_cell BK142.out 0).trans rfl, (blk_cell BK142.out 1).trans rfl, (blk_cell BK142.out 2).trans rfl, (blk_cell BK142.out 3).trans rfl, (blk_cell BK142.out 4).trans rfl, (blk_cell BK143.out 0).trans rfl, (blk_cell BK143.out 1).trans rfl, (blk_cell BK143.out 2).trans rfl, (blk_cell BK143.out 3).trans rfl, (blk_cell BK143.out 4).trans rfl, (blk_cell BK144.out 0).trans rfl, (blk_cell BK144.out 1).trans rfl, (blk_cell BK144.out 2).trans rfl, (blk_cell BK144.out 3).trans rfl, (blk_cell BK144.out 4).trans rfl⟩ (fun hHeld => ?_); refine with_tabW laws_FnSemverOrder.tab5 laws_FnSemverOrder.bits5 (fun HT_ HW_ => ?_)
                          generalize w159.drew = w160 at HO150 BK142 BK143 BK144 HB hHeld ⊢
                          refine take_ (i := 0) (N := some 30) (v := ?_) (a' := ?_) #[true, false, false, false, false, false, false, false, false, false, false, false] rfl rfl (take_ofW HT_.out HW_.out (by kernel_rfl)) (fun _ _ _ h => h) (Or.inl ⟨by rfl, ?_⟩) hHeld ?_ ?_
                          rotate_left
                          · rintro w' ⟨s0, s1, s2, s3, s4, s5, s6, s7, s8, s9, s10, s11, s12, s13, s14⟩
                            go_simp
                            with_reducible rfl
                          rotate_left
                          · simp only [Act.put, List.setIfInBounds_toArray, List.set_cons_zero, List.set_cons_succ, i64_w, i32_w]
                            rfl
                          refine take_ (i := 1) (N := some 31) (v := ?_) (a' := ?_) #[true, true, false, false, false, false, false, false, false, false, false, false] rfl rfl (take_ofW HT_.out HW_.out (by kernel_rfl)) (fun _ _ _ h => h) (Or.inl ⟨by rfl, ?_⟩) hHeld ?_ ?_
                          rotate_left
                          · rintro w' ⟨s0, s1, s2, s3, s4, s5, s6, s7, s8, s9, s10, s11, s12, s13, s14⟩
                            go_simp
                            with_reducible rfl
                          rotate_left
                          · simp only [Act.put, List.setIfInBounds_toArray, List.set_cons_zero, List.set_cons_succ, i64_w, i32_w]
                            rfl
                          refine take_ (i := 3) (N := some 33) (v := ?_) (a' := ?_) #[true, true, false, true, false, false, false, false, false, false, false, false] rfl rfl (take_ofW HT_.out HW_.out (by kernel_rfl)) (fun _ _ _ h => h) (Or.inl ⟨by rfl, ?_⟩) hHeld ?_ ?_
                          rotate_left
                          · rintro w' ⟨s0, s1, s2, s3, s4, s5, s6, s7, s8, s9, s10, s11, s12, s13, s14⟩
                            go_simp
                            with_reducible rfl
                          rotate_left
                          · simp only [Act.put, List.setIfInBounds_toArray, List.set_cons_zero, List.set_cons_succ, i64_w, i32_w]
                            rfl
                          refine take_ (i := 4) (N := some 34) (v := ?_) (a' := ?_) #[true, true, false, true, true, false, false, false, false, false, false, false] rfl rfl (take_ofW HT_.out HW_.out (by kernel_rfl)) (fun _ _ _ h => h) (Or.inl ⟨by rfl, ?_⟩) hHeld ?_ ?_
                          rotate_left
                          · rintro w' ⟨s0, s1, s2, s3, s4, s5, s6, s7, s8, s9, s10, s11, s12, s13, s14⟩
                            go_simp
                            with_reducible rfl
                          rotate_left
                          · simp only [Act.put, List.setIfInBounds_toArray, List.set_cons_zero, List.set_cons_succ, i64_w, i32_w]
                            rfl
                          refine take_ (i := 6) (N := some 36) (v := ?_) (a' := ?_) #[true, true, false, true, true, false, true, false, false, false, false, false] rfl rfl (take_ofW HT_.out HW_.out (by kernel_rfl)) (fun _ _ _ h => h) (Or.inl ⟨by rfl, ?_⟩) hHeld ?_ ?_
                          rotate_left
                          · rintro w' ⟨s0, s1, s2, s3, s4, s5, s6, s7, s8, s9, s10, s11, s12, s13, s14⟩
                            go_simp
                            with_reducible rfl
                          rotate_left
                          · simp only [Act.put, List.setIfInBounds_toArray, List.set_cons_zero, List.set_cons_succ, i64_w, i32_w]
                            rfl
                          refine take_ (i := 7) (N := some 37) (v := ?_) (a' := ?_) #[true, true, false, true, true, false, true, true, false, false, false, false] rfl rfl (take_ofW HT_.out HW_.out (by kernel_rfl)) (fun _ _ _ h => h) (Or.inl ⟨by rfl, ?_⟩) hHeld ?_ ?_
                          rotate_left
                          · rintro w' ⟨s0, s1, s2, s3, s4, s5, s6, s7, s8, s9, s10, s11, s12, s13, s14⟩
                            go_simp
                            with_reducible rfl
                          rotate_left
                          · simp only [Act.put, List.setIfInBounds_toArray, List.set_cons_zero, List.set_cons_succ, i64_w, i32_w]
                            rfl
                          refine one_ (i := 2) (N := some 32) #[true, true, true, true, true, false, true, true, false, false, false, false] rfl rfl (one_of HT_.out (by kernel_rfl)) (by decide) (fun K hK => ?_)
                          refine goes_ Tryd.func27 (by kernel_rfl) rfl #[.agg #[.int .u64 a0_0, .int .u64 a0_1, .int .u64 a0_2, .string a0_3, .string a0_4], .agg #[.int .u64 a1_0, .int .u64 a1_1, .int .u64 a1_2, .string a1_3, .string a1_4]] (by rfl) rfl rfl (by (try simp only [List.map_toArray, List.map_cons, List.map_nil]); first | done | rfl | (simp only [List.length_drop, List.length_take]; rfl)) ?_
                          with_reducible refine (Hand.VersionCompare.calls a0_0 a0_1 a0_2 a0_3 a0_4 a1_0 a1_1 a1_2 a1_3 a1_4 t152 _ ?gl26 A36.out).mono ?_
                          case gl26 => (first | exact HG.out | exact Hand.Gl.below HG.out (by repeat (first | (with_reducible first | exact HB.out | apply below_alloc | apply pw_below_drewN | apply below_drew1) | exact HB.out)))
                          rintro e w161 ⟨rfl, hb⟩
                          refine ⟨_, rfl, ?_⟩
                          have n0_ := Aside0.mk (Kd.R_below (by (with_reducible repeat (first | apply Kd.R_alloc | apply Kd.R_drewN | apply Kd.R_drew)); exact HO150.out) hb)
                          have n1_ := Aside0.mk (blk_below (g := gb142) (o := .cells #[.int .u64 a0_0, .int .u64 a0_1, .int .u64 a0_2, .string a0_3, .string a0_4] 29 (0, 0)) (by (with_reducible repeat (first | refine blk_drewN ?_ _ | refine blk_drew ?_ | refine blk_alloc ?_ _)); exact BK142.out) hb)
                          have n2_ := Aside0.mk (blk_below (g := gb143) (o := .cells #[.int .u64 a1_0, .int .u64 a1_1, .int .u64 a1_2, .string a1_3, .string a1_4] 29 (0, 0)) (by (with_reducible repeat (first | refine blk_drewN ?_ _ | refine blk_drew ?_ | refine blk_alloc ?_ _)); exact BK143.out) hb)
                          have n3_ := Aside0.mk (blk_below (g := gb144) (o := .cells #[.int .u64 a2_0, .int .u64 a2_1, .int .u64 a2_2, .string a2_3, .string a2_4] 29 (0, 0)) (by (with_reducible repeat (first | refine blk_drewN ?_ _ | refine blk_drew ?_ | refine blk_alloc ?_ _)); exact BK144.out) hb)
                          have n4_ := Aside0.mk (below_step (by repeat (first | (with_reducible first | exact HB.out | apply below_alloc | apply pw_below_drewN | apply below_drew1 | refine below_set ?_ GE142.out | refine below_set ?_ GE143.out | refine below_set ?_ GE144.out) | exact HB.out)) hb)
                          clear HO150
                          clear BK142
                          clear BK143
                          clear BK144
                          clear HB
                          have HO150 := n0_
                          have BK142 := n1_
                          have BK143 := n2_
                          have BK144 := n3_
                          have HB := n4_
                          clear n0_ n1_ n2_ n3_ n4_
                          (try clear hb)
                          (try clear hb2)
                          (try clear hk)
                          (try clear hi)
                          refine hK.out _ _ ⟨(blk_cell BK142.out 0).trans rfl, (blk_cell BK142.out 1).trans rfl, (blk_cell BK142.out 2).trans rfl, (blk_cell BK142.out 3).trans rfl, (blk_cell BK142.out 4).trans rfl, (blk_cell BK143.out 0).trans rfl, (blk_cell BK143.out 1).trans rfl, (blk_cell BK143.out 2).trans rfl, (blk_cell BK143.out 3).trans rfl, (blk_cell BK143.out 4).trans rfl, (blk_cell BK144.out 0).trans rfl, (blk_cell BK144.out 1).trans rfl, (blk_cell BK144.out 2).trans rfl, (blk_cell BK144.out 3).trans rfl, (blk_cell BK144.out 4).trans rfl⟩ (fun hHeld => ?_)
                          clear hK K
                          refine norm_ (a' := ?_) ?_ ?_
                          rotate_left
                          · show Act.put _ (some 32) _ = _
                            simp only [Act.put, List.setIfInBounds_toArray, List.set_cons_zero, List.set_cons_succ, i64_w, i32_w]
                            rfl
                          refine one_ (i := 5) (N := some 35) #[true, true, true, true, true, true, true, true, false, false, false, false] rfl rfl (one_of HT_.out (by kernel_rfl)) (by decide) (fun K hK => ?_)
                          refine goes_ Tryd.func27 (by kernel_rfl) rfl #[.agg #[.int .u64 a1_0, .int .u64 a1_1, .int .u64 a1_2, .string a1_3, .string a1_4], .agg #[.int .u64 a2_0, .int .u64 a2_1, .int .u64 a2_2, .string a2_3, .string a2_4]] (by rfl) rfl rfl (by (try simp only [List.map_toArray, List.map_cons, List.map_nil]); first | done | rfl | (simp only [List.length_drop, List.length_take]; rfl)) ?_
                          with_reducible refine (Hand.VersionCompare.calls a1_0 a1_1 a1_2 a1_3 a1_4 a2_0 a2_1 a2_2 a2_3 a2_4 t153 _ ?gl27 A37.out).mono ?_
                          case gl27 => (first | exact HG.out | exact Hand.Gl.below HG.out (by repeat (first | (with_reducible first | exact HB.out | apply below_alloc | apply pw_below_drewN | apply below_drew1) | exact HB.out)))
                          rintro e w162 ⟨rfl, hb⟩
                          refine ⟨_, rfl, ?_⟩
                          have n0_ := Aside0.mk (Kd.R_below (by (with_reducible repeat (first | apply Kd.R_alloc | apply Kd.R_drewN | apply Kd.R_drew)); exact HO150.out) hb)
                          have n1_ := Aside0.mk (blk_below (g := gb142) (o := .cells #[.int .u64 a0_0, .int .u64 a0_1, .int .u64 a0_2, .string a0_3, .string a0_4] 29 (0, 0)) (by (with_reducible repeat (first | refine blk_drewN ?_ _ | refine blk_drew ?_ | refine blk_alloc ?_ _)); exact BK142.out) hb)
                          have n2_ := Aside0.mk (blk_below (g := gb143) (o := .cells #[.int .u64 a1_0, .int .u64 a1_1, .int .u64 a1_2, .string a1_3, .string a1_4] 29 (0, 0)) (by (with_reducible repeat (first | refine blk_drewN ?_ _ | refine blk_drew ?_ | refine blk_alloc ?_ _)); exact BK143.out) hb)
                          have n3_ := Aside0.mk (blk_below (g := gb144) (o := .cells #[.int .u64 a2_0, .int .u64 a2_1, .int .u64 a2_2, .string a2_3, .string a2_4] 29 (0, 0)) (by (with_reducible repeat (first | refine blk_drewN ?_ _ | refine blk_drew ?_ | refine blk_alloc ?_ _)); exact BK144.out) hb)
                          have n4_ := Aside0.mk (below_step (by repeat (first | (with_reducible first | exact HB.out | apply below_alloc | apply pw_below_drewN | apply below_drew1 | refine below_set ?_ GE142.out | refine below_set ?_ GE143.out | refine below_set ?_ GE144.out) | exact HB.out)) hb)
                          clear HO150
                          clear BK142
                          clear BK143
                          clear BK144
                          clear HB
                          have HO150 := n0_
                          have BK142 := n1_
                          have BK143 := n2_
                          have BK144 := n3_
                          have HB := n4_
                          clear n0_ n1_ n2_ n3_ n4_
                          (try clear hb)
                          (try clear hb2)
                          (try clear hk)
                          (try clear hi)
                          refine hK.out _ _ ⟨(blk_cell BK142.out 0).trans rfl, (blk_cell BK142.out 1).trans rfl, (blk_cell BK142.out 2).trans rfl, (blk_cell BK142.out 3).trans rfl, (blk_cell BK142.out 4).trans rfl, (blk_cell BK143.out 0).trans rfl, (blk_cell BK143.out 1).trans rfl, (blk_cell BK143.out 2).trans rfl, (blk_cell BK143.out 3).trans rfl, (blk_cell BK143.out 4).trans rfl, (blk_cell BK144.out 0).trans rfl, (blk_cell BK144.out 1).trans rfl, (blk_cell BK144.out 2).trans rfl, (blk_cell BK144.out 3).trans rfl, (blk_cell BK144.out 4).trans rfl⟩ (fun hHeld => ?_)
                          clear hK K
                          refine norm_ (a' := ?_) ?_ ?_
                          rotate_left
                          · show Act.put _ (some 35) _ = _
                            simp only [Act.put, List.setIfInBounds_toArray, List.set_cons_zero, List.set_cons_succ, i64_w, i32_w]
                            rfl
                          refine one_ (i := 8) (N := some 38) #[true, true, true, true, true, true, true, true, true, false, false, false] rfl rfl (one_of HT_.out (by kernel_rfl)) (by decide) (fun K hK => ?_)
                          refine goes_ Tryd.func27 (by kernel_rfl) rfl #[.agg #[.int .u64 a0_0, .int .u64 a0_1, .int .u64 a0_2, .string a0_3, .string a0_4], .agg #[.int .u64 a2_0, .int .u64 a2_1, .int .u64 a2_2, .string a2_3, .string a2_4]] (by rfl) rfl rfl (by (try simp only [List.map_toArray, List.map_cons, List.map_nil]); first | done | rfl | (simp only [List.length_drop, List.length_take]; rfl)) ?_
                          with_reducible refine (Hand.VersionCompare.calls a0_0 a0_1 a0_2 a0_3 a0_4 a2_0 a2_1 a2_2 a2_3 a2_4 t154 _ ?gl28 A38.out).mono ?_
                          case gl28 => (first | exact HG.out | exact Hand.Gl.below HG.out (by repeat (first | (with_reducible first | exact HB.out | apply below_alloc | apply pw_below_drewN | apply below_drew1) | exact HB.out)))
                          rintro e w163 ⟨rfl, hb⟩
                          refine ⟨_, rfl, ?_⟩
                          have n0_ := Aside0.mk (Kd.R_below (by (with_reducible repeat (first | apply Kd.R_alloc | apply Kd.R_drewN | apply Kd.R_drew)); exact HO150.out) hb)
                          have n1_ := Aside0.mk (blk_below (g := gb142) (o := .cells #[.int .u64 a0_0, .int .u64 a0_1, .int .u64 a0_2, .string a0_3, .string a0_4] 29 (0, 0)) (by (with_reducible repeat (first | refine blk_drewN ?_ _ | refine blk_drew ?_ | refine blk_alloc ?_ _)); exact BK142.out) hb)
                          have n2_ := Aside0.mk (blk_below (g := gb143) (o := .cells #[.int .u64 a1_0, .int .u64 a1_1, .int .u64 a1_2, .string a1_3, .string a1_4] 29 (0, 0)) (by (with_reducible repeat (first | refine blk_drewN ?_ _ | refine blk_drew ?_ | refine blk_alloc ?_ _)); exact BK143.out) hb)
                          have n3_ := Aside0.mk (blk_below (g := gb144) (o := .cells #[.int .u64 a2_0, .int .u64 a2_1, .int .u64 a2_2, .string a2_3, .string a2_4] 29 (0, 0)) (by (with_reducible repeat (first | refine blk_drewN ?_ _ | refine blk_drew ?_ | refine blk_alloc ?_ _)); exact BK144.out) hb)
                          have n4_ := Aside0.mk (below_step (by repeat (first | (with_reducible first | exact HB.out | apply below_alloc | apply pw_below_drewN | apply below_drew1 | refine below_set ?_ GE142.out | refine below_set ?_ GE143.out | refine below_set ?_ GE144.out) | exact HB.out)) hb)
                          clear HO150
                          clear BK142
                          clear BK143
                          clear BK144
                          clear HB
                          have HO150 := n0_
                          have BK142 := n1_
                          have BK143 := n2_
                          have BK144 := n3_
                          have HB := n4_
                          clear n0_ n1_ n2_ n3_ n4_
                          (try clear hb)
                          (try clear hb2)
                          (try clear hk)
                          (try clear hi)
                          refine hK.out _ _ ⟨(blk_cell BK142.out 0).trans rfl, (blk_cell BK142.out 1).trans rfl, (blk_cell BK142.out 2).trans rfl, (blk_cell BK142.out 3).trans rfl, (blk_cell BK142.out 4).trans rfl, (blk_cell BK143.out 0).trans rfl, (blk_cell BK143.out 1).trans rfl, (blk_cell BK143.out 2).trans rfl, (blk_cell BK143.out 3).trans rfl, (blk_cell BK143.out 4).trans rfl, (blk_cell BK144.out 0).trans rfl, (blk_cell BK144.out 1).trans rfl, (blk_cell BK144.out 2).trans rfl, (blk_cell BK144.out 3).trans rfl, (blk_cell BK144.out 4).trans rfl⟩ (fun hHeld => ?_)
                          clear hK K
                          refine norm_ (a' := ?_) ?_ ?_
                          rotate_left
                          · show Act.put _ (some 38) _ = _
                            simp only [Act.put, List.setIfInBounds_toArray, List.set_cons_zero, List.set_cons_succ, i64_w, i32_w]
                            rfl
                          refine pure_ (i := 9) (N := some 7) (v := ?_) (a' := ?_) #[true, true, true, true, true, true, true, true, true, true, false, false] rfl rfl (any_of HT_.out (by kernel_rfl)) (fun _ _ _ h => h) (Or.inl ⟨by rfl, ?_⟩) ?_ ?_
                          rotate_left
                          · intro w'
                            go_simp
                            with_reducible rfl
                          rotate_left
                          · simp only [Act.put, List.setIfInBounds_toArray, List.set_cons_zero, List.set_cons_succ, i64_w, i32_w]
                            rfl
                          refine pure_ (i := 10) (N := some 8) (v := ?_) (a' := ?_) #[true, true, true, true, true, true, true, true, true, true, true, false] rfl rfl (any_of HT_.out (by kernel_rfl)) (fun _ _ _ h => h) (Or.inl ⟨by rfl, ?_⟩) ?_ ?_
                          rotate_left
                          · intro w'
                            go_simp
                            with_reducible rfl
                          rotate_left
                          · simp only [Act.put, List.setIfInBounds_toArray, List.set_cons_zero, List.set_cons_succ, i64_w, i32_w]
                            rfl
                          refine pure_ (i := 11) (N := some 9) (v := ?_) (a' := ?_) #[true, true, true, true, true, true, true, true, true, true, true, true] rfl rfl (any_of HT_.out (by kernel_rfl)) (fun _ _ _ h => h) (Or.inl ⟨by rfl, ?_⟩) ?_ ?_
                          rotate_left
                          · intro w'
                            go_simp
                            with_reducible rfl
                          rotate_left
                          · simp only [Act.put, List.setIfInBounds_toArray, List.set_cons_zero, List.set_cons_succ, i64_w, i32_w]
                            rfl
                          refine done_ (done_of HT_.out (by kernel_rfl)) ?_
                          try go_wp2
                          have n0_ := Aside0.mk (Kd.R_drew HO150.out)
                          have n1_ := Aside0.mk (blk_drew BK142.out)
                          have n2_ := Aside0.mk (blk_drew BK143.out)
                          have n3_ := Aside0.mk (blk_drew BK144.out)
                          have n4_ := Aside0.mk (below_drew1 HB.out)
                          clear HO150
                          clear BK142
                          clear BK143
                          clear BK144
                          clear HB
                          have HO150 := n0_
                          have BK142 := n1_
                          have BK143 := n2_
                          have BK144 := n3_
                          have HB := n4_
                          clear n0_ n1_ n2_ n3_ n4_
                          refine start_ (n := 6) (S := fun w' => w'.cell? ⟨gb142, 0, none⟩ = some (.int .u64 a0_0) ∧ w'.cell? ⟨gb142, 1, none⟩ = some (.int .u64 a0_1) ∧ w'.cell? ⟨gb142, 2, none⟩ = some (.int .u64 a0_2) ∧ w'.cell? ⟨gb142, 3, none⟩ = some (.string a0_3) ∧ w'.cell? ⟨gb142, 4, none⟩ = some (.string a0_4) ∧ w'.cell? ⟨gb143, 0, none⟩ = some (.int .u64 a1_0) ∧ w'.cell? ⟨gb143, 1, none⟩ = some (.int .u64 a1_1) ∧ w'.cell? ⟨gb143, 2, none⟩ = some (.int .u64 a1_2) ∧ w'.cell? ⟨gb143, 3, none⟩ = some (.string a1_3) ∧ w'.cell? ⟨gb143, 4, none⟩ = some (.string a1_4)) (ds := []) #[false, false, false, false, false, false] (by kernel_rfl) rfl rfl ⟨(blk_cell BK142.out 0).trans rfl, (blk_cell BK142.out 1).trans rfl, (blk_cell BK142.out 2).trans rfl, (blk_cell BK142.out 3).trans rfl, (blk_cell BK142.out 4).trans rfl, (blk_cell BK143.out 0).trans rfl, (blk_cell BK143.out 1).trans rfl, (blk_cell BK143.out 2).trans rfl, (blk_cell BK143.out 3).trans rfl, (blk_cell BK143.out 4).trans rfl⟩ (fun hHeld => ?_)
                          generalize w163.drew = w164 at HO150 BK142 BK143 BK144 HB hHeld ⊢
                          refine take_ (i := 0) (N := some 39) (v := ?_) (a' := ?_) #[true, false, false, false, false, false] rfl rfl (by kernel_rfl) (fun _ _ _ h => h) (Or.inl ⟨by rfl, ?_⟩) hHeld ?_ ?_
                          rotate_left
                          · rintro w' ⟨s0, s1, s2, s3, s4, s5, s6, s7, s8, s9⟩
                            go_simp
                            with_reducible rfl
                          rotate_left
                          · simp only [Act.put, List.setIfInBounds_toArray, List.set_cons_zero, List.set_cons_succ, i64_w, i32_w]
                            rfl
                          refine take_ (i := 2) (N := some 41) (v := ?_) (a' := ?_) #[true, false, true, false, false, false] rfl rfl (by kernel_rfl) (fun _ _ _ h => h) (Or.inl ⟨by rfl, ?_⟩) hHeld ?_ ?_
                          rotate_left
                          · rintro w' ⟨s0, s1, s2, s3, s4, s5, s6, s7, s8, s9⟩
                            go_simp
                            with_reducible rfl
                          rotate_left
                          · simp only [Act.put, List.setIfInBounds_toArray, List.set_cons_zero, List.set_cons_succ, i64_w, i32_w]
                            rfl
                          refine one_ (i := 1) (N := some 40) #[true, true, true, false, false, false] rfl rfl (by kernel_rfl) (by decide) (fun K hK => ?_)
                          refine goes_ Tryd.func28 (by kernel_rfl) rfl #[.agg #[.int .u64 a0_0, .int .u64 a0_1, .int .u64 a0_2, .string a0_3, .string a0_4], .string (⟨#[]⟩ : ByteArray)] (by rfl) rfl rfl (by (try simp only [List.map_toArray, List.map_cons, List.map_nil]); first | done | rfl | (simp only [List.length_drop, List.length_take]; rfl)) ?_
                          with_reducible refine (laws_svMeta.calls a0_0 a0_1 a0_2 a0_3 a0_4 (⟨#[]⟩ : ByteArray) t155 t156 t157 t158 t159 _ A39.out).mono ?_
                          rintro e w165 ⟨rfl, hb⟩
                          refine ⟨_, rfl, ?_⟩
                          have n0_ := Aside0.mk (Kd.R_below (by (with_reducible repeat (first | apply Kd.R_alloc | apply Kd.R_drewN | apply Kd.R_drew)); exact HO150.out) hb)
                          have n1_ := Aside0.mk (blk_below (g := gb142) (o := .cells #[.int .u64 a0_0, .int .u64 a0_1, .int .u64 a0_2, .string a0_3, .string a0_4] 29 (0, 0)) (by (with_reducible repeat (first | refine blk_drewN ?_ _ | refine blk_drew ?_ | refine blk_alloc ?_ _)); exact BK142.out) hb)
                          have n2_ := Aside0.mk (blk_below (g := gb143) (o := .cells #[.int .u64 a1_0, .int .u64 a1_1, .int .u64 a1_2, .string a1_3, .string a1_4] 29 (0, 0)) (by (with_reducible repeat (first | refine blk_drewN ?_ _ | refine blk_drew ?_ | refine blk_alloc ?_ _)); exact BK143.out) hb)
                          have n3_ := Aside0.mk (blk_below (g := gb144) (o := .cells #[.int .u64 a2_0, .int .u64 a2_1, .int .u64 a2_2, .string a2_3, .string a2_4] 29 (0, 0)) (by (with_reducible repeat (first | refine blk_drewN ?_ _ | refine blk_drew ?_ | refine blk_alloc ?_ _)); exact BK144.out) hb)
                          have n4_ := Aside0.mk (below_step (by repeat (first | (with_reducible first | exact HB.out | apply below_alloc | apply pw_below_drewN | apply below_drew1 | refine below_set ?_ GE142.out | refine below_set ?_ GE143.out | refine below_set ?_ GE144.out) | exact HB.out)) hb)
                          clear HO150
                          clear BK142
                          clear BK143
                          clear BK144
                          clear HB
                          have HO150 := n0_
                          have BK142 := n1_
                          have BK143 := n2_
                          have BK144 := n3_
                          have HB := n4_
                          clear n0_ n1_ n2_ n3_ n4_
                          (try clear hb)
                          (try clear hb2)
                          (try clear hk)
                          (try clear hi)
                          refine hK.out _ _ ⟨(blk_cell BK142.out 0).trans rfl, (blk_cell BK142.out 1).trans rfl, (blk_cell BK142.out 2).trans rfl, (blk_cell BK142.out 3).trans rfl, (blk_cell BK142.out 4).trans rfl, (blk_cell BK143.out 0).trans rfl, (blk_cell BK143.out 1).trans rfl, (blk_cell BK143.out 2).trans rfl, (blk_cell BK143.out 3).trans rfl, (blk_cell BK143.out 4).trans rfl⟩ (fun hHeld => ?_)
                          clear hK K
                          refine norm_ (a' := ?_) ?_ ?_
                          rotate_left
                          · show Act.put _ (some 40) _ = _
                            simp only [Act.put, List.setIfInBounds_toArray, List.set_cons_zero, List.set_cons_succ, i64_w, i32_w]
                            rfl
                          refine one_ (i := 3) (N := some 42) #[true, true, true, true, false, false] rfl rfl (by kernel_rfl) (by decide) (fun K hK => ?_)
                          refine goes_ Tryd.func28 (by kernel_rfl) rfl #[.agg #[.int .u64 a1_0, .int .u64 a1_1, .int .u64 a1_2, .string a1_3, .string a1_4], .string (⟨#[]⟩ : ByteArray)] (by rfl) rfl rfl (by (try simp only [List.map_toArray, List.map_cons, List.map_nil]); first | done | rfl | (simp only [List.length_drop, List.length_take]; rfl)) ?_
                          with_reducible refine (laws_svMeta.calls a1_0 a1_1 a1_2 a1_3 a1_4 (⟨#[]⟩ : ByteArray) t160 t161 t162 t163 t164 _ A40.out).mono ?_
                          rintro e w166 ⟨rfl, hb⟩
                          refine ⟨_, rfl, ?_⟩
                          have n0_ := Aside0.mk (Kd.R_below (by (with_reducible repeat (first | apply Kd.R_alloc | apply Kd.R_drewN | apply Kd.R_drew)); exact HO150.out) hb)
                          have n1_ := Aside0.mk (blk_below (g := gb142) (o := .cells #[.int .u64 a0_0, .int .u64 a0_1, .int .u64 a0_2, .string a0_3, .string a0_4] 29 (0, 0)) (by (with_reducible repeat (first | refine blk_drewN ?_ _ | refine blk_drew ?_ | refine blk_alloc ?_ _)); exact BK142.out) hb)
                          have n2_ := Aside0.mk (blk_below (g := gb143) (o := .cells #[.int .u64 a1_0, .int .u64 a1_1, .int .u64 a1_2, .string a1_3, .string a1_4] 29 (0, 0)) (by (with_reducible repeat (first | refine blk_drewN ?_ _ | refine blk_drew ?_ | refine blk_alloc ?_ _)); exact BK143.out) hb)
                          have n3_ := Aside0.mk (blk_below (g := gb144) (o := .cells #[.int .u64 a2_0, .int .u64 a2_1, .int .u64 a2_2, .string a2_3, .string a2_4] 29 (0, 0)) (by (with_reducible repeat (first | refine blk_drewN ?_ _ | refine blk_drew ?_ | refine blk_alloc ?_ _)); exact BK144.out) hb)
                          have n4_ := Aside0.mk (below_step (by repeat (first | (with_reducible first | exact HB.out | apply below_alloc | apply pw_below_drewN | apply below_drew1 | refine below_set ?_ GE142.out | refine below_set ?_ GE143.out | refine below_set ?_ GE144.out) | exact HB.out)) hb)
                          clear HO150
                          clear BK142
                          clear BK143
                          clear BK144
                          clear HB
                          have HO150 := n0_
                          have BK142 := n1_
                          have BK143 := n2_
                          have BK144 := n3_
                          have HB := n4_
                          clear n0_ n1_ n2_ n3_ n4_
                          (try clear hb)
                          (try clear hb2)
                          (try clear hk)
                          (try clear hi)
                          refine hK.out _ _ ⟨(blk_cell BK142.out 0).trans rfl, (blk_cell BK142.out 1).trans rfl, (blk_cell BK142.out 2).trans rfl, (blk_cell BK142.out 3).trans rfl, (blk_cell BK142.out 4).trans rfl, (blk_cell BK143.out 0).trans rfl, (blk_cell BK143.out 1).trans rfl, (blk_cell BK143.out 2).trans rfl, (blk_cell BK143.out 3).trans rfl, (blk_cell BK143.out 4).trans rfl⟩ (fun hHeld => ?_)
                          clear hK K
                          refine norm_ (a' := ?_) ?_ ?_
                          rotate_left
                          · show Act.put _ (some 42) _ = _
                            simp only [Act.put, List.setIfInBounds_toArray, List.set_cons_zero, List.set_cons_succ, i64_w, i32_w]
                            rfl
                          refine pure_ (i := 4) (N := some 43) (v := ?_) (a' := ?_) #[true, true, true, true, true, false] rfl rfl (by kernel_rfl) (fun _ _ _ h => h) (Or.inl ⟨by rfl, ?_⟩) ?_ ?_
                          rotate_left
                          · intro w'
                            go_simp
                            with_reducible rfl
                          rotate_left
                          · simp only [Act.put, List.setIfInBounds_toArray, List.set_cons_zero, List.set_cons_succ, i64_w, i32_w]
                            rfl
                          refine pure_ (i := 5) (N := some 10) (v := ?_) (a' := ?_) #[true, true, true, true, true, true] rfl rfl (by kernel_rfl) (fun _ _ _ h => h) (Or.inl ⟨by rfl, ?_⟩) ?_ ?_
                          rotate_left
                          · intro w'
                            go_simp
                            with_reducible rfl
                          rotate_left
                          · simp only [Act.put, List.setIfInBounds_toArray, List.set_cons_zero, List.set_cons_succ, i64_w, i32_w]
                            rfl
                          refine done_ (by kernel_rfl) ?_
                          have hcz167_0 : w166.cell? ⟨gb143, 0, none⟩ = some (.int .u64 a1_0) := (blk_cell BK143.out 0).trans rfl
                          have hcz167_1 : w166.cell? ⟨gb143, 1, none⟩ = some (.int .u64 a1_1) := (blk_cell BK143.out 1).trans rfl
                          have hcz167_2 : w166.cell? ⟨gb143, 2, none⟩ = some (.int .u64 a1_2) := (blk_cell BK143.out 2).trans rfl
                          have hcz167_3 : w166.cell? ⟨gb143, 3, none⟩ = some (.string a1_3) := (blk_cell BK143.out 3).trans rfl
                          have hcz167_4 : w166.cell? ⟨gb143, 4, none⟩ = some (.string a1_4) := (blk_cell BK143.out 4).trans rfl
                          have hfz167_0 := blk_frozen BK143.out 0
                          have hfz167_1 := blk_frozen BK143.out 1
                          have hfz167_2 := blk_frozen BK143.out 2
                          have hfz167_3 := blk_frozen BK143.out 3
                          have hfz167_4 := blk_frozen BK143.out 4
                          have hcz168_0 : w166.cell? ⟨gb142, 0, none⟩ = some (.int .u64 a0_0) := (blk_cell BK142.out 0).trans rfl
                          have hcz168_1 : w166.cell? ⟨gb142, 1, none⟩ = some (.int .u64 a0_1) := (blk_cell BK142.out 1).trans rfl
                          have hcz168_2 : w166.cell? ⟨gb142, 2, none⟩ = some (.int .u64 a0_2) := (blk_cell BK142.out 2).trans rfl
                          have hcz168_3 : w166.cell? ⟨gb142, 3, none⟩ = some (.string a0_3) := (blk_cell BK142.out 3).trans rfl
                          have hcz168_4 : w166.cell? ⟨gb142, 4, none⟩ = some (.string a0_4) := (blk_cell BK142.out 4).trans rfl
                          have hfz168_0 := blk_frozen BK142.out 0
                          have hfz168_1 := blk_frozen BK142.out 1
                          have hfz168_2 := blk_frozen BK142.out 2
                          have hfz168_3 := blk_frozen BK142.out 3
                          have hfz168_4 := blk_frozen BK142.out 4
                          try go_wp2_with (first | ((with_reducible refine gate_callee (f := 27) rfl ?_); refine goesL_ (some 46) rfl rfl Tryd.func27 (by kernel_rfl) rfl #[.agg #[.int .u64 a1_0, .int .u64 a1_1, .int .u64 a1_2, .string a1_3, .string a1_4], .agg #[.int .u64 a0_0, .int .u64 a0_1, .int .u64 a0_2, .string a0_3, .string a0_4]] rfl (by (try simp only [List.map_toArray, List.map_cons, List.map_nil]); first | done | rfl | (simp only [List.length_drop, List.length_take]; rfl)) ?_; (with_reducible refine (Hand.VersionCompare.calls a1_0 a1_1 a1_2 a1_3 a1_4 a0_0 a0_1 a0_2 a0_3 a0_4 t165 _ ?gl6 A41.out).mono ?_); (case gl6 => first | exact HG.out | exact Hand.Gl.below HG.out (by repeat (first | (with_reducible first | exact HB.out | apply below_alloc | apply pw_below_drewN | apply below_drew1) | exact HB.out))); rintro e w169 ⟨rfl, hb⟩; refine ⟨_, rfl, ?_⟩; have n0_ := Aside0.mk (Kd.R_below (by (with_reducible repeat (first | apply Kd.R_alloc | apply Kd.R_drewN | apply Kd.R_drew)); exact HO150.out) hb); have n1_ := Aside0.mk (blk_below (g := gb142) (o := .cells #[.int .u64 a0_0, .int .u64 a0_1, .int .u64 a0_2, .string a0_3, .string a0_4] 29 (0, 0)) (by (with_reducible repeat (first | refine blk_drewN ?_ _ | refine blk_drew ?_ | refine blk_alloc ?_ _)); exact BK142.out) hb); have n2_ := Aside0.mk (blk_below (g := gb143) (o := .cells #[.int .u64 a1_0, .int .u64 a1_1, .int .u64 a1_2, .string a1_3, .string a1_4] 29 (0, 0)) (by (with_reducible repeat (first | refine blk_drewN ?_ _ | refine blk_drew ?_ | refine blk_alloc ?_ _)); exact BK143.out) hb); have n3_ := Aside0.mk (blk_below (g := gb144) (o := .cells #[.int .u64 a2_0, .int .u64 a2_1, .int .u64 a2_2, .string a2_3, .string a2_4] 29 (0, 0)) (by (with_reducible repeat (first | refine blk_drewN ?_ _ | refine blk_drew ?_ | refine blk_alloc ?_ _)); exact BK144.out) hb); have n4_ := Aside0.mk (below_step (by repeat (first | (with_reducible first | exact HB.out | apply below_alloc | apply pw_below_drewN | apply below_drew1 | refine below_set ?_ GE142.out | refine below_set ?_ GE143.out | refine below_set ?_ GE144.out) | exact HB.out)) hb); clear HO150; clear BK142; clear BK143; clear BK144; clear HB; have HO150 := n0_; have BK142 := n1_; have BK143 := n2_; have BK144 := n3_; have HB := n4_; clear n0_ n1_ n2_ n3_ n4_; (try clear hb); (try clear hb2); (try clear hk); (try clear hi)))
                          go_ret
                          exact ⟨by first | rfl | (simp [errW_none, errW_some] <;> rfl) | (simp [*, errW_none, errW_some] <;> rfl), by repeat (first | (with_reducible first | exact HB.out | apply below_alloc | apply pw_below_drewN | apply below_drew1 | refine below_set ?_ GE142.out | refine below_set ?_ GE143.out | refine below_set ?_ GE144.out) | exact HB.out)⟩
                        · rw [if_neg c149] at H
                          have c149b0 : decide (t154 < 0) = false := decide_eq_false c149
                          clear c149
                          by_cases c170 : t152 = 0
                          · rw [if_pos c170] at H
                            have c170b0 : (t152 == 0) = true := beq_iff_eq.mpr c170
                            have c170b1 : (t152 != 0) = false := bne_eq_false_iff_eq.mpr c170
                            have hx : (t155 == t160 && (t156 == t161 && (t157 == t162 && (t158.toList == t163.toList && (t159.toList == t164.toList))))) = true := by
                              cases hy : (t155 == t160 && (t156 == t161 && (t157 == t162 && (t158.toList == t163.toList && (t159.toList == t164.toList)))))
                              · first | rfl | (exfalso; rw [hy] at c43b2; rw [c170b0] at c43b2; cases c43b2)
                              · first | rfl | (exfalso; rw [hy] at c43b2; rw [c170b0] at c43b2; cases c43b2)
                            clear c43b0 c43b1 c43b2
                            clear c170
                            obtain rfl := Option.some.inj H
                            have hnb171 := NB142_143.out
                            have hnc171 := NB143_142.out
                            have hnb172 := NB142_144.out
                            have hnc172 := NB144_142.out
                            have hcz173_0 : wc.cell? ⟨gb142, 0, none⟩ = some (.int .u64 a0_0) := (blk_cell BK142.out 0).trans rfl
                            have hcz173_1 : wc.cell? ⟨gb142, 1, none⟩ = some (.int .u64 a0_1) := (blk_cell BK142.out 1).trans rfl
                            have hcz173_2 : wc.cell? ⟨gb142, 2, none⟩ = some (.int .u64 a0_2) := (blk_cell BK142.out 2).trans rfl
                            have hcz173_3 : wc.cell? ⟨gb142, 3, none⟩ = some (.string a0_3) := (blk_cell BK142.out 3).trans rfl
                            have hcz173_4 : wc.cell? ⟨gb142, 4, none⟩ = some (.string a0_4) := (blk_cell BK142.out 4).trans rfl
                            have hfz173_0 := blk_frozen BK142.out 0
                            have hfz173_1 := blk_frozen BK142.out 1
                            have hfz173_2 := blk_frozen BK142.out 2
                            have hfz173_3 := blk_frozen BK142.out 3
                            have hfz173_4 := blk_frozen BK142.out 4
                            have hnb174 := NB143_144.out
                            have hnc174 := NB144_143.out
                            have hcz175_0 : wc.cell? ⟨gb143, 0, none⟩ = some (.int .u64 a1_0) := (blk_cell BK143.out 0).trans rfl
                            have hcz175_1 : wc.cell? ⟨gb143, 1, none⟩ = some (.int .u64 a1_1) := (blk_cell BK143.out 1).trans rfl
                            have hcz175_2 : wc.cell? ⟨gb143, 2, none⟩ = some (.int .u64 a1_2) := (blk_cell BK143.out 2).trans rfl
                            have hcz175_3 : wc.cell? ⟨gb143, 3, none⟩ = some (.string a1_3) := (blk_cell BK143.out 3).trans rfl
                            have hcz175_4 : wc.cell? ⟨gb143, 4, none⟩ = some (.string a1_4) := (blk_cell BK143.out 4).trans rfl
                            have hfz175_0 := blk_frozen BK143.out 0
                            have hfz175_1 := blk_frozen BK143.out 1
                            have hfz175_2 := blk_frozen BK143.out 2
                            have hfz175_3 := blk_frozen BK143.out 3
                            have hfz175_4 := blk_frozen BK143.out 4
                            have hcz176_0 : wc.cell? ⟨gb144, 0, none⟩ = some (.int .u64 a2_0) := (blk_cell BK144.out 0).trans rfl
                            have hcz176_1 : wc.cell? ⟨gb144, 1, none⟩ = some (.int .u64 a2_1) := (blk_cell BK144.out 1).trans rfl
                            have hcz176_2 : wc.cell? ⟨gb144, 2, none⟩ = some (.int .u64 a2_2) := (blk_cell BK144.out 2).trans rfl
                            have hcz176_3 : wc.cell? ⟨gb144, 3, none⟩ = some (.string a2_3) := (blk_cell BK144.out 3).trans rfl
                            have hcz176_4 : wc.cell? ⟨gb144, 4, none⟩ = some (.string a2_4) := (blk_cell BK144.out 4).trans rfl
                            have hfz176_0 := blk_frozen BK144.out 0
                            have hfz176_1 := blk_frozen BK144.out 1
                            have hfz176_2 := blk_frozen BK144.out 2
                            have hfz176_3 := blk_frozen BK144.out 3
                            have hfz176_4 := blk_frozen BK144.out 4
                            try go_wp2_with (first | ((with_reducible refine gate_dst (N := 27) rfl ?_); refine Kd.R_lit k29 _ 29 ?hg (N := 27) ?hd (xs := ([(⟨a0_0, a0_1, a0_2, a0_3, a0_4⟩ : S29), (⟨a1_0, a1_1, a1_2, a1_3, a1_4⟩ : S29), (⟨a2_0, a2_1, a2_2, a2_3, a2_4⟩ : S29)] : List (S29))) (inner := [.int .u64 a0_0, .int .u64 a0_1, .int .u64 a0_2, .string a0_3, .string a0_4, .int .u64 a1_0, .int .u64 a1_1, .int .u64 a1_2, .string a1_3, .string a1_4, .int .u64 a2_0, .int .u64 a2_1, .int .u64 a2_2, .string a2_3, .string a2_4]) (ok := fun _ => True) (okp := fun _ => True) ?hr ?hp (fun _ hk => hk) trivial (Below.refl _ _) (Nat.le_refl _) (by simp) ?_; (case hd => rfl); (case hg => rfl); (case hr => first | (go_simp; done) | (go_simp; rfl)); (case hp => exact (Reps.c5 (show Kd.M k29 _ _ _ (⟨a0_0, a0_1, a0_2, a0_3, a0_4⟩ : S29) [.int .u64 a0_0, .int .u64 a0_1, .int .u64 a0_2, .string a0_3, .string a0_4] from (k29_mkM _ _ _ (⟨a0_0, a0_1, a0_2, a0_3, a0_4⟩ : S29) )) (Reps.c5 (show Kd.M k29 _ _ _ (⟨a1_0, a1_1, a1_2, a1_3, a1_4⟩ : S29) [.int .u64 a1_0, .int .u64 a1_1, .int .u64 a1_2, .string a1_3, .string a1_4] from (k29_mkM _ _ _ (⟨a1_0, a1_1, a1_2, a1_3, a1_4⟩ : S29) )) (Reps.c5 (show Kd.M k29 _ _ _ (⟨a2_0, a2_1, a2_2, a2_3, a2_4⟩ : S29) [.int .u64 a2_0, .int .u64 a2_1, .int .u64 a2_2, .string a2_3, .string a2_4] from (k29_mkM _ _ _ (⟨a2_0, a2_1, a2_2, a2_3, a2_4⟩ : S29) )) (Reps.none _ _))))); intro v149 w177 ho178 hb hg_ hnew_; clear hg_ hnew_; (first | rw [← Ny148.out] at ho178 | (simp only [Int.reduceToNat] at ho178; rw [← Ny148.out] at ho178)); have n0_ := Aside0.mk (Kd.R_lower (Kd.R_newB (Kd.R_newB (Kd.R_newB ho178 (g := gb142) (o := .cells #[.int .u64 a0_0, .int .u64 a0_1, .int .u64 a0_2, .string a0_3, .string a0_4] 29 (0, 0)) (by (with_reducible repeat (first | refine blk_drewN ?_ _ | refine blk_drew ?_ | refine blk_alloc ?_ _)); exact BK142.out)) (g := gb143) (o := .cells #[.int .u64 a1_0, .int .u64 a1_1, .int .u64 a1_2, .string a1_3, .string a1_4] 29 (0, 0)) (by (with_reducible repeat (first | refine blk_drewN ?_ _ | refine blk_drew ?_ | refine blk_alloc ?_ _)); exact BK143.out)) (g := gb144) (o := .cells #[.int .u64 a2_0, .int .u64 a2_1, .int .u64 a2_2, .string a2_3, .string a2_4] 29 (0, 0)) (by (with_reducible repeat (first | refine blk_drewN ?_ _ | refine blk_drew ?_ | refine blk_alloc ?_ _)); exact BK144.out)) (below_size (by repeat (first | (with_reducible first | exact HB.out | apply below_alloc | apply pw_below_drewN | apply below_drew1 | refine below_set ?_ GE142.out | refine below_set ?_ GE143.out | refine below_set ?_ GE144.out) | exact HB.out)))); have n1_ := Aside0.mk (blk_below (g := gb142) (o := .cells #[.int .u64 a0_0, .int .u64 a0_1, .int .u64 a0_2, .string a0_3, .string a0_4] 29 (0, 0)) (by (with_reducible repeat (first | refine blk_drewN ?_ _ | refine blk_drew ?_ | refine blk_alloc ?_ _)); exact BK142.out) hb); have n2_ := Aside0.mk (blk_below (g := gb143) (o := .cells #[.int .u64 a1_0, .int .u64 a1_1, .int .u64 a1_2, .string a1_3, .string a1_4] 29 (0, 0)) (by (with_reducible repeat (first | refine blk_drewN ?_ _ | refine blk_drew ?_ | refine blk_alloc ?_ _)); exact BK143.out) hb); have n3_ := Aside0.mk (blk_below (g := gb144) (o := .cells #[.int .u64 a2_0, .int .u64 a2_1, .int .u64 a2_2, .string a2_3, .string a2_4] 29 (0, 0)) (by (with_reducible repeat (first | refine blk_drewN ?_ _ | refine blk_drew ?_ | refine blk_alloc ?_ _)); exact BK144.out) hb); have n4_ := Aside0.mk (below_step (by repeat (first | (with_reducible first | exact HB.out | apply below_alloc | apply pw_below_drewN | apply below_drew1 | refine below_set ?_ GE142.out | refine below_set ?_ GE143.out | refine below_set ?_ GE144.out) | exact HB.out)) hb); clear BK142; clear BK143; clear BK144; clear HB; have HO150 := n0_; have BK142 := n1_; have BK143 := n2_; have BK144 := n3_; have HB := n4_; clear n0_ n1_ n2_ n3_ n4_; clear hb ho178; obtain ⟨Ao179, co179, eo179⟩ := Kd.R_slice HO150.out; subst eo179) | ((with_reducible refine gate_callee (f := 26) rfl ?_); refine goesL_ (some 28) rfl rfl Tryd.func26 (by kernel_rfl) rfl #[.slice Ao179 y148.length co179] rfl (by (try simp only [List.map_toArray, List.map_cons, List.map_nil]); first | done | rfl | (simp only [List.length_drop, List.length_take]; rfl)) ?_; (with_reducible refine (laws_svGood.calls kj3 _ _ y148 true _ ?side1 ?side2 A34.out).mono ?_); (case side1 => repeat (first | exact (Kd.R_reads' HO150.out).2.2 | (with_reducible refine Kd.C_alloc ?_ _) | (with_reducible refine Kd.C_drewN ?_ _) | (with_reducible refine Kd.C_drew ?_))); (case side2 => exact (Kd.R_reads' HO150.out).2.1); rintro e w180 ⟨rfl, hb⟩; refine ⟨_, rfl, ?_⟩; have n0_ := Aside0.mk (Kd.R_below (by (with_reducible repeat (first | apply Kd.R_alloc | apply Kd.R_drewN | apply Kd.R_drew)); exact HO150.out) hb); have n1_ := Aside0.mk (blk_below (g := gb142) (o := .cells #[.int .u64 a0_0, .int .u64 a0_1, .int .u64 a0_2, .string a0_3, .string a0_4] 29 (0, 0)) (by (with_reducible repeat (first | refine blk_drewN ?_ _ | refine blk_drew ?_ | refine blk_alloc ?_ _)); exact BK142.out) hb); have n2_ := Aside0.mk (blk_below (g := gb143) (o := .cells #[.int .u64 a1_0, .int .u64 a1_1, .int .u64 a1_2, .string a1_3, .string a1_4] 29 (0, 0)) (by (with_reducible repeat (first | refine blk_drewN ?_ _ | refine blk_drew ?_ | refine blk_alloc ?_ _)); exact BK143.out) hb); have n3_ := Aside0.mk (blk_below (g := gb144) (o := .cells #[.int .u64 a2_0, .int .u64 a2_1, .int .u64 a2_2, .string a2_3, .string a2_4] 29 (0, 0)) (by (with_reducible repeat (first | refine blk_drewN ?_ _ | refine blk_drew ?_ | refine blk_alloc ?_ _)); exact BK144.out) hb); have n4_ := Aside0.mk (below_step (by repeat (first | (with_reducible first | exact HB.out | apply below_alloc | apply pw_below_drewN | apply below_drew1 | refine below_set ?_ GE142.out | refine below_set ?_ GE143.out | refine below_set ?_ GE144.out) | exact HB.out)) hb); clear HO150; clear BK142; clear BK143; clear BK144; clear HB; have HO150 := n0_; have BK142 := n1_; have BK143 := n2_; have BK144 := n3_; have HB := n4_; clear n0_ n1_ n2_ n3_ n4_; (try clear hb); (try clear hb2); (try clear hk); (try clear hi)))
                            have n0_ := Aside0.mk (Kd.R_drew HO150.out)
                            have n1_ := Aside0.mk (blk_drew BK142.out)
                            have n2_ := Aside0.mk (blk_drew BK143.out)
                            have n3_ := Aside0.mk (blk_drew BK144.out)
                            have n4_ := Aside0.mk (below_drew1 HB.out)
                            clear HO150
                            clear BK142
                            clear BK143
                            clear BK144
                            clear HB
                            have HO150 := n0_
                            have BK142 := n1_
                            have BK143 := n2_
                            have BK144 := n3_
                            have HB := n4_
                            clear n0_ n1_ n2_ n3_ n4_
                            refine start_ (n := 12) (S := fun w' => w'.cell? ⟨gb142, 0, none⟩ = some (.int .u64 a0_0) ∧ w'.cell? ⟨gb142, 1, none⟩ = some (.int .u64 a0_1) ∧ w'.cell? ⟨gb142, 2, none⟩ = some (.int .u64 a0_2) ∧ w'.cell? ⟨gb142, 3, none⟩ = some (.string a0_3) ∧ w'.cell? ⟨gb142, 4, none⟩ = some (.string a0_4) ∧ w'.cell? ⟨gb143, 0, none⟩ = some (.int .u64 a1_0) ∧ w'.cell? ⟨gb143, 1, none⟩ = some (.int .u64 a1_1) ∧ w'.cell? ⟨gb143, 2, none⟩ = some (.int .u64 a1_2) ∧ w'.cell? ⟨gb143, 3, none⟩ = some (.string a1_3) ∧ w'.cell? ⟨gb143, 4, none⟩ = some (.string a1_4) ∧ w'.cell? ⟨gb144, 0, none⟩ = some (.int .u64 a2_0) ∧ w'.cell? ⟨gb144, 1, none⟩ = some (.int .u64 a2_1) ∧ w'.cell? ⟨gb144, 2, none⟩ = some (.int .u64 a2_2) ∧ w'.cell? ⟨gb144, 3, none⟩ = some (.string a2_3) ∧ w'.cell? ⟨gb144, 4, none⟩ = some (.string a2_4)) (ds := []) #[false, false, false, false, false, false, false, false, false, false, false, false] (by kernel_rfl) rfl rfl ⟨(blk_cell BK142.out 0).trans rfl, (blk_cell BK142.out 1).trans rfl, (blk_cell BK142.out 2).trans rfl, (blk_cell BK142.out 3).trans rfl, (blk_cell BK142.out 4).trans rfl, (blk_cell BK143.out 0).trans rfl, (blk_cell BK143.out 1).trans rfl, (blk_cell BK143.out 2).trans rfl, (blk_cell BK143.out 3).trans rfl, (blk_cell BK143.out 4).trans rfl, (blk_cell BK144.out 0).trans rfl, (blk_cell BK144.out 1).trans rfl, (blk_cell BK144.out 2).trans rfl, (blk_cell BK144.out 3).trans rfl, (blk_cell BK144.out 4).trans rfl⟩ (fun hHeld => ?_); refine with_tabW laws_FnSemverOrder.tab5 laws_FnSemverOrder.bits5 (fun HT_ HW_ => ?_)
                            generalize w180.drew = w181 at HO150 BK142 BK143 BK144 HB hHeld ⊢
                            refine take_ (i := 0) (N := some 30) (v := ?_) (a' := ?_) #[true, false, false, false, false, false, false, false, false, false, false, false] rfl rfl (take_ofW HT_.out HW_.out (by kernel_rfl)) (fun _ _ _ h => h) (Or.inl ⟨by rfl, ?_⟩) hHeld ?_ ?_
                            rotate_left
                            · rintro w' ⟨s0, s1, s2, s3, s4, s5, s6, s7, s8, s9, s10, s11, s12, s13, s14⟩
                              go_simp
                              with_reducible rfl
                            rotate_left
                            · simp only [Act.put, List.setIfInBounds_toArray, List.set_cons_zero, List.set_cons_succ, i64_w, i32_w]
                              rfl
                            refine take_ (i := 1) (N := some 31) (v := ?_) (a' := ?_) #[true, true, false, false, false, false, false, false, false, false, false, false] rfl rfl (take_ofW HT_.out HW_.out (by kernel_rfl)) (fun _ _ _ h => h) (Or.inl ⟨by rfl, ?_⟩) hHeld ?_ ?_
                            rotate_left
                            · rintro w' ⟨s0, s1, s2, s3, s4, s5, s6, s7, s8, s9, s10, s11, s12, s13, s14⟩
                              go_simp
                              with_reducible rfl
                            rotate_left
                            · simp only [Act.put, List.setIfInBounds_toArray, List.set_cons_zero, List.set_cons_succ, i64_w, i32_w]
                              rfl
                            refine take_ (i := 3) (N := some 33) (v := ?_) (a' := ?_) #[true, true, false, true, false, false, false, false, false, false, false, false] rfl rfl (take_ofW HT_.out HW_.out (by kernel_rfl)) (fun _ _ _ h => h) (Or.inl ⟨by rfl, ?_⟩) hHeld ?_ ?_
                            rotate_left
                            · rintro w' ⟨s0, s1, s2, s3, s4, s5, s6, s7, s8, s9, s10, s11, s12, s13, s14⟩
                              go_simp
                              with_reducible rfl
                            rotate_left
                            · simp only [Act.put, List.setIfInBounds_toArray, List.set_cons_zero, List.set_cons_succ, i64_w, i32_w]
                              rfl
                            refine take_ (i := 4) (N := some 34) (v := ?_) (a' := ?_) #[true, true, false, true, true, false, false, false, false, false, false, false] rfl rfl (take_ofW HT_.out HW_.out (by kernel_rfl)) (fun _ _ _ h => h) (Or.inl ⟨by rfl, ?_⟩) hHeld ?_ ?_
                            rotate_left
                            · rintro w' ⟨s0, s1, s2, s3, s4, s5, s6, s7, s8, s9, s10, s11, s12, s13, s14⟩
                              go_simp
                              with_reducible rfl
                            rotate_left
                            · simp only [Act.put, List.setIfInBounds_toArray, List.set_cons_zero, List.set_cons_succ, i64_w, i32_w]
                              rfl
                            refine take_ (i := 6) (N := some 36) (v := ?_) (a' := ?_) #[true, true, false, true, true, false, true, false, false, false, false, false] rfl rfl (take_ofW HT_.out HW_.out (by kernel_rfl)) (fun _ _ _ h => h) (Or.inl ⟨by rfl, ?_⟩) hHeld ?_ ?_
                            rotate_left
                            · rintro w' ⟨s0, s1, s2, s3, s4, s5, s6, s7, s8, s9, s10, s11, s12, s13, s14⟩
                              go_simp
                              with_reducible rfl
                            rotate_left
                            · simp only [Act.put, List.setIfInBounds_toArray, List.set_cons_zero, List.set_cons_succ, i64_w, i32_w]
                              rfl
                            refine take_ (i := 7) (N := some 37) (v := ?_) (a' := ?_) #[true, true, false, true, true, false, true, true, false, false, false, false] rfl rfl (take_ofW HT_.out HW_.out (by kernel_rfl)) (fun _ _ _ h => h) (Or.inl ⟨by rfl, ?_⟩) hHeld ?_ ?_
                            rotate_left
                            · rintro w' ⟨s0, s1, s2, s3, s4, s5, s6, s7, s8, s9, s10, s11, s12, s13, s14⟩
                              go_simp
                              with_reducible rfl
                            rotate_left
                            · simp only [Act.put, List.setIfInBounds_toArray, List.set_cons_zero, List.set_cons_succ, i64_w, i32_w]
                              rfl
                            refine one_ (i := 2) (N := some 32) #[true, true, true, true, true, false, true, true, false, false, false, false] rfl rfl (one_of HT_.out (by kernel_rfl)) (by decide) (fun K hK => ?_)
                            refine goes_ Tryd.func27 (by kernel_rfl) rfl #[.agg #[.int .u64 a0_0, .int .u64 a0_1, .int .u64 a0_2, .string a0_3, .string a0_4], .agg #[.int .u64 a1_0, .int .u64 a1_1, .int .u64 a1_2, .string a1_3, .string a1_4]] (by rfl) rfl rfl (by (try simp only [List.map_toArray, List.map_cons, List.map_nil]); first | done | rfl | (simp only [List.length_drop, List.length_take]; rfl)) ?_
                            with_reducible refine (Hand.VersionCompare.calls a0_0 a0_1 a0_2 a0_3 a0_4 a1_0 a1_1 a1_2 a1_3 a1_4 t152 _ ?gl29 A36.out).mono ?_
                            case gl29 => (first | exact HG.out | exact Hand.Gl.below HG.out (by repeat (first | (with_reducible first | exact HB.out | apply below_alloc | apply pw_below_drewN | apply below_drew1) | exact HB.out)))
                            rintro e w182 ⟨rfl, hb⟩
                            refine ⟨_, rfl, ?_⟩
                            have n0_ := Aside0.mk (Kd.R_below (by (with_reducible repeat (first | apply Kd.R_alloc | apply Kd.R_drewN | apply Kd.R_drew)); exact HO150.out) hb)
                            have n1_ := Aside0.mk (blk_below (g := gb142) (o := .cells #[.int .u64 a0_0, .int .u64 a0_1, .int .u64 a0_2, .string a0_3, .string a0_4] 29 (0, 0)) (by (with_reducible repeat (first | refine blk_drewN ?_ _ | refine blk_drew ?_ | refine blk_alloc ?_ _)); exact BK142.out) hb)
                            have n2_ := Aside0.mk (blk_below (g := gb143) (o := .cells #[.int .u64 a1_0, .int .u64 a1_1, .int .u64 a1_2, .string a1_3, .string a1_4] 29 (0, 0)) (by (with_reducible repeat (first | refine blk_drewN ?_ _ | refine blk_drew ?_ | refine blk_alloc ?_ _)); exact BK143.out) hb)
                            have n3_ := Aside0.mk (blk_below (g := gb144) (o := .cells #[.int .u64 a2_0, .int .u64 a2_1, .int .u64 a2_2, .string a2_3, .string a2_4] 29 (0, 0)) (by (with_reducible repeat (first | refine blk_drewN ?_ _ | refine blk_drew ?_ | refine blk_alloc ?_ _)); exact BK144.out) hb)
                            have n4_ := Aside0.mk (below_step (by repeat (first | (with_reducible first | exact HB.out | apply below_alloc | apply pw_below_drewN | apply below_drew1 | refine below_set ?_ GE142.out | refine below_set ?_ GE143.out | refine below_set ?_ GE144.out) | exact HB.out)) hb)
                            clear HO150
                            clear BK142
                            clear BK143
                            clear BK144
                            clear HB
                            have HO150 := n0_
                            have BK142 := n1_
                            have BK143 := n2_
                            have BK144 := n3_
                            have HB := n4_
                            clear n0_ n1_ n2_ n3_ n4_
                            (try clear hb)
                            (try clear hb2)
                            (try clear hk)
                            (try clear hi)
                            refine hK.out _ _ ⟨(blk_cell BK142.out 0).trans rfl, (blk_cell BK142.out 1).trans rfl, (blk_cell BK142.out 2).trans rfl, (blk_cell BK142.out 3).trans rfl, (blk_cell BK142.out 4).trans rfl, (blk_cell BK143.out 0).trans rfl, (blk_cell BK143.out 1).trans rfl, (blk_cell BK143.out 2).trans rfl, (blk_cell BK143.out 3).trans rfl, (blk_cell BK143.out 4).trans rfl, (blk_cell BK144.out 0).trans rfl, (blk_cell BK144.out 1).trans rfl, (blk_cell BK144.out 2).trans rfl, (blk_cell BK144.out 3).trans rfl, (blk_cell BK144.out 4).trans rfl⟩ (fun hHeld => ?_)
                            clear hK K
                            refine norm_ (a' := ?_) ?_ ?_
                            rotate_left
                            · show Act.put _ (some 32) _ = _
                              simp only [Act.put, List.setIfInBounds_toArray, List.set_cons_zero, List.set_cons_succ, i64_w, i32_w]
                              rfl
                            refine one_ (i := 5) (N := some 35) #[true, true, true, true, true, true, true, true, false, false, false, false] rfl rfl (one_of HT_.out (by kernel_rfl)) (by decide) (fun K hK => ?_)
                            refine goes_ Tryd.func27 (by kernel_rfl) rfl #[.agg #[.int .u64 a1_0, .int .u64 a1_1, .int .u64 a1_2, .string a1_3, .string a1_4], .agg #[.int .u64 a2_0, .int .u64 a2_1, .int .u64 a2_2, .string a2_3, .string a2_4]] (by rfl) rfl rfl (by (try simp only [List.map_toArray, List.map_cons, List.map_nil]); first | done | rfl | (simp only [List.length_drop, List.length_take]; rfl)) ?_
                            with_reducible refine (Hand.VersionCompare.calls a1_0 a1_1 a1_2 a1_3 a1_4 a2_0 a2_1 a2_2 a2_3 a2_4 t153 _ ?gl30 A37.out).mono ?_
                            case gl30 => (first | exact HG.out | exact Hand.Gl.below HG.out (by repeat (first | (with_reducible first | exact HB.out | apply below_alloc | apply pw_below_drewN | apply below_drew1) | exact HB.out)))
                            rintro e w183 ⟨rfl, hb⟩
                            refine ⟨_, rfl, ?_⟩
                            have n0_ := Aside0.mk (Kd.R_below (by (with_reducible repeat (first | apply Kd.R_alloc | apply Kd.R_drewN | apply Kd.R_drew)); exact HO150.out) hb)
                            have n1_ := Aside0.mk (blk_below (g := gb142) (o := .cells #[.int .u64 a0_0, .int .u64 a0_1, .int .u64 a0_2, .string a0_3, .string a0_4] 29 (0, 0)) (by (with_reducible repeat (first | refine blk_drewN ?_ _ | refine blk_drew ?_ | refine blk_alloc ?_ _)); exact BK142.out) hb)
                            have n2_ := Aside0.mk (blk_below (g := gb143) (o := .cells #[.int .u64 a1_0, .int .u64 a1_1, .int .u64 a1_2, .string a1_3, .string a1_4] 29 (0, 0)) (by (with_reducible repeat (first | refine blk_drewN ?_ _ | refine blk_drew ?_ | refine blk_alloc ?_ _)); exact BK143.out) hb)
                            have n3_ := Aside0.mk (blk_below (g := gb144) (o := .cells #[.int .u64 a2_0, .int .u64 a2_1, .int .u64 a2_2, .string a2_3, .string a2_4] 29 (0, 0)) (by (with_reducible repeat (first | refine blk_drewN ?_ _ | refine blk_drew ?_ | refine blk_alloc ?_ _)); exact BK144.out) hb)
                            have n4_ := Aside0.mk (below_step (by repeat (first | (with_reducible first | exact HB.out | apply below_alloc | apply pw_below_drewN | apply below_drew1 | refine below_set ?_ GE142.out | refine below_set ?_ GE143.out | refine below_set ?_ GE144.out) | exact HB.out)) hb)
                            clear HO150
                            clear BK142
                            clear BK143
                            clear BK144
                            clear HB
                            have HO150 := n0_
                            have BK142 := n1_
                            have BK143 := n2_
                            have BK144 := n3_
                            have HB := n4_
                            clear n0_ n1_ n2_ n3_ n4_
                            (try clear hb)
                            (try clear hb2)
                            (try clear hk)
                            (try clear hi)
                            refine hK.out _ _ ⟨(blk_cell BK142.out 0).trans rfl, (blk_cell BK142.out 1).trans rfl, (blk_cell BK142.out 2).trans rfl, (blk_cell BK142.out 3).trans rfl, (blk_cell BK142.out 4).trans rfl, (blk_cell BK143.out 0).trans rfl, (blk_cell BK143.out 1).trans rfl, (blk_cell BK143.out 2).trans rfl, (blk_cell BK143.out 3).trans rfl, (blk_cell BK143.out 4).trans rfl, (blk_cell BK144.out 0).trans rfl, (blk_cell BK144.out 1).trans rfl, (blk_cell BK144.out 2).trans rfl, (blk_cell BK144.out 3).trans rfl, (blk_cell BK144.out 4).trans rfl⟩ (fun hHeld => ?_)
                            clear hK K
                            refine norm_ (a' := ?_) ?_ ?_
                            rotate_left
                            · show Act.put _ (some 35) _ = _
                              simp only [Act.put, List.setIfInBounds_toArray, List.set_cons_zero, List.set_cons_succ, i64_w, i32_w]
                              rfl
                            refine one_ (i := 8) (N := some 38) #[true, true, true, true, true, true, true, true, true, false, false, false] rfl rfl (one_of HT_.out (by kernel_rfl)) (by decide) (fun K hK => ?_)
                            refine goes_ Tryd.func27 (by kernel_rfl) rfl #[.agg #[.int .u64 a0_0, .int .u64 a0_1, .int .u64 a0_2, .string a0_3, .string a0_4], .agg #[.int .u64 a2_0, .int .u64 a2_1, .int .u64 a2_2, .string a2_3, .string a2_4]] (by rfl) rfl rfl (by (try simp only [List.map_toArray, List.map_cons, List.map_nil]); first | done | rfl | (simp only [List.length_drop, List.length_take]; rfl)) ?_
                            with_reducible refine (Hand.VersionCompare.calls a0_0 a0_1 a0_2 a0_3 a0_4 a2_0 a2_1 a2_2 a2_3 a2_4 t154 _ ?gl31 A38.out).mono ?_
                            case gl31 => (first | exact HG.out | exact Hand.Gl.below HG.out (by repeat (first | (with_reducible first | exact HB.out | apply below_alloc | apply pw_below_drewN | apply below_drew1) | exact HB.out)))
                            rintro e w184 ⟨rfl, hb⟩
                            refine ⟨_, rfl, ?_⟩
                            have n0_ := Aside0.mk (Kd.R_below (by (with_reducible repeat (first | apply Kd.R_alloc | apply Kd.R_drewN | apply Kd.R_drew)); exact HO150.out) hb)
                            have n1_ := Aside0.mk (blk_below (g := gb142) (o := .cells #[.int .u64 a0_0, .int .u64 a0_1, .int .u64 a0_2, .string a0_3, .string a0_4] 29 (0, 0)) (by (with_reducible repeat (first | refine blk_drewN ?_ _ | refine blk_drew ?_ | refine blk_alloc ?_ _)); exact BK142.out) hb)
                            have n2_ := Aside0.mk (blk_below (g := gb143) (o := .cells #[.int .u64 a1_0, .int .u64 a1_1, .int .u64 a1_2, .string a1_3, .string a1_4] 29 (0, 0)) (by (with_reducible repeat (first | refine blk_drewN ?_ _ | refine blk_drew ?_ | refine blk_alloc ?_ _)); exact BK143.out) hb)
                            have n3_ := Aside0.mk (blk_below (g := gb144) (o := .cells #[.int .u64 a2_0, .int .u64 a2_1, .int .u64 a2_2, .string a2_3, .string a2_4] 29 (0, 0)) (by (with_reducible repeat (first | refine blk_drewN ?_ _ | refine blk_drew ?_ | refine blk_alloc ?_ _)); exact BK144.out) hb)
                            have n4_ := Aside0.mk (below_step (by repeat (first | (with_reducible first | exact HB.out | apply below_alloc | apply pw_below_drewN | apply below_drew1 | refine below_set ?_ GE142.out | refine below_set ?_ GE143.out | refine below_set ?_ GE144.out) | exact HB.out)) hb)
                            clear HO150
                            clear BK142
                            clear BK143
                            clear BK144
                            clear HB
                            have HO150 := n0_
                            have BK142 := n1_
                            have BK143 := n2_
                            have BK144 := n3_
                            have HB := n4_
                            clear n0_ n1_ n2_ n3_ n4_
                            (try clear hb)
                            (try clear hb2)
                            (try clear hk)
                            (try clear hi)
                            refine hK.out _ _ ⟨(blk_cell BK142.out 0).trans rfl, (blk_cell BK142.out 1).trans rfl, (blk_cell BK142.out 2).trans rfl, (blk_cell BK142.out 3).trans rfl, (blk_cell BK142.out 4).trans rfl, (blk_cell BK143.out 0).trans rfl, (blk_cell BK143.out 1).trans rfl, (blk_cell BK143.out 2).trans rfl, (blk_cell BK143.out 3).trans rfl, (blk_cell BK143.out 4).trans rfl, (blk_cell BK144.out 0).trans rfl, (blk_cell BK144.out 1).trans rfl, (blk_cell BK144.out 2).trans rfl, (blk_cell BK144.out 3).trans rfl, (blk_cell BK144.out 4).trans rfl⟩ (fun hHeld => ?_)
                            clear hK K
                            refine norm_ (a' := ?_) ?_ ?_
                            rotate_left
                            · show Act.put _ (some 38) _ = _
                              simp only [Act.put, List.setIfInBounds_toArray, List.set_cons_zero, List.set_cons_succ, i64_w, i32_w]
                              rfl
                            refine pure_ (i := 9) (N := some 7) (v := ?_) (a' := ?_) #[true, true, true, true, true, true, true, true, true, true, false, false] rfl rfl (any_of HT_.out (by kernel_rfl)) (fun _ _ _ h => h) (Or.inl ⟨by rfl, ?_⟩) ?_ ?_
                            rotate_left
                            · intro w'
                              go_simp
                              with_reducible rfl
                            rotate_left
                            · simp only [Act.put, List.setIfInBounds_toArray, List.set_cons_zero, List.set_cons_succ, i64_w, i32_w]
                              rfl
                            refine pure_ (i := 10) (N := some 8) (v := ?_) (a' := ?_) #[true, true, true, true, true, true, true, true, true, true, true, false] rfl rfl (any_of HT_.out (by kernel_rfl)) (fun _ _ _ h => h) (Or.inl ⟨by rfl, ?_⟩) ?_ ?_
                            rotate_left
                            · intro w'
                              go_simp
                              with_reducible rfl
                            rotate_left
                            · simp only [Act.put, List.setIfInBounds_toArray, List.set_cons_zero, List.set_cons_succ, i64_w, i32_w]
                              rfl
                            refine pure_ (i := 11) (N := some 9) (v := ?_) (a' := ?_) #[true, true, true, true, true, true, true, true, true, true, true, true] rfl rfl (any_of HT_.out (by kernel_rfl)) (fun _ _ _ h => h) (Or.inl ⟨by rfl, ?_⟩) ?_ ?_
                            rotate_left
                            · intro w'
                              go_simp
                              with_reducible rfl
                            rotate_left
                            · simp only [Act.put, List.setIfInBounds_toArray, List.set_cons_zero, List.set_cons_succ, i64_w, i32_w]
                              rfl
                            refine done_ (done_of HT_.out (by kernel_rfl)) ?_
                            try go_wp2
                            have n0_ := Aside0.mk (Kd.R_drew HO150.out)
                            have n1_ := Aside0.mk (blk_drew BK142.out)
                            have n2_ := Aside0.mk (blk_drew BK143.out)
                            have n3_ := Aside0.mk (blk_drew BK144.out)
                            have n4_ := Aside0.mk (below_drew1 HB.out)
                            clear HO150
                            clear BK142
                            clear BK143
                            clear BK144
                            clear HB
                            have HO150 := n0_
                            have BK142 := n1_
                            have BK143 := n2_
                            have BK144 := n3_
                            have HB := n4_
                            clear n0_ n1_ n2_ n3_ n4_
                            refine start_ (n := 6) (S := fun w' => w'.cell? ⟨gb142, 0, none⟩ = some (.int .u64 a0_0) ∧ w'.cell? ⟨gb142, 1, none⟩ = some (.int .u64 a0_1) ∧ w'.cell? ⟨gb142, 2, none⟩ = some (.int .u64 a0_2) ∧ w'.cell? ⟨gb142, 3, none⟩ = some (.string a0_3) ∧ w'.cell? ⟨gb142, 4, none⟩ = some (.string a0_4) ∧ w'.cell? ⟨gb143, 0, none⟩ = some (.int .u64 a1_0) ∧ w'.cell? ⟨gb143, 1, none⟩ = some (.int .u64 a1_1) ∧ w'.cell? ⟨gb143, 2, none⟩ = some (.int .u64 a1_2) ∧ w'.cell? ⟨gb143, 3, none⟩ = some (.string a1_3) ∧ w'.cell? ⟨gb143, 4, none⟩ = some (.string a1_4)) (ds := []) #[false, false, false, false, false, false] (by kernel_rfl) rfl rfl ⟨(blk_cell BK142.out 0).trans rfl, (blk_cell BK142.out 1).trans rfl, (blk_cell BK142.out 2).trans rfl, (blk_cell BK142.out 3).trans rfl, (blk_cell BK142.out 4).trans rfl, (blk_cell BK143.out 0).trans rfl, (blk_cell BK143.out 1).trans rfl, (blk_cell BK143.out 2).trans rfl, (blk_cell BK143.out 3).trans rfl, (blk_cell BK143.out 4).trans rfl⟩ (fun hHeld => ?_)
                            generalize w184.drew = w185 at HO150 BK142 BK143 BK144 HB hHeld ⊢
                            refine take_ (i := 0) (N := some 39) (v := ?_) (a' := ?_) #[true, false, false, false, false, false] rfl rfl (by kernel_rfl) (fun _ _ _ h => h) (Or.inl ⟨by rfl, ?_⟩) hHeld ?_ ?_
                            rotate_left
                            · rintro w' ⟨s0, s1, s2, s3, s4, s5, s6, s7, s8, s9⟩
                              go_simp
                              with_reducible rfl
                            rotate_left
                            · simp only [Act.put, List.setIfInBounds_toArray, List.set_cons_zero, List.set_cons_succ, i64_w, i32_w]
                              rfl
                            refine take_ (i := 2) (N := some 41) (v := ?_) (a' := ?_) #[true, false, true, false, false, false] rfl rfl (by kernel_rfl) (fun _ _ _ h => h) (Or.inl ⟨by rfl, ?_⟩) hHeld ?_ ?_
                            rotate_left
                            · rintro w' ⟨s0, s1, s2, s3, s4, s5, s6, s7, s8, s9⟩
                              go_simp
                              with_reducible rfl
                            rotate_left
                            · simp only [Act.put, List.setIfInBounds_toArray, List.set_cons_zero, List.set_cons_succ, i64_w, i32_w]
                              rfl
                            refine one_ (i := 1) (N := some 40) #[true, true, true, false, false, false] rfl rfl (by kernel_rfl) (by decide) (fun K hK => ?_)
                            refine goes_ Tryd.func28 (by kernel_rfl) rfl #[.agg #[.int .u64 a0_0, .int .u64 a0_1, .int .u64 a0_2, .string a0_3, .string a0_4], .string (⟨#[]⟩ : ByteArray)] (by rfl) rfl rfl (by (try simp only [List.map_toArray, List.map_cons, List.map_nil]); first | done | rfl | (simp only [List.length_drop, List.length_take]; rfl)) ?_
                            with_reducible refine (laws_svMeta.calls a0_0 a0_1 a0_2 a0_3 a0_4 (⟨#[]⟩ : ByteArray) t155 t156 t157 t158 t159 _ A39.out).mono ?_
                            rintro e w186 ⟨rfl, hb⟩
                            refine ⟨_, rfl, ?_⟩
                            have n0_ := Aside0.mk (Kd.R_below (by (with_reducible repeat (first | apply Kd.R_alloc | apply Kd.R_drewN | apply Kd.R_drew)); exact HO150.out) hb)
                            have n1_ := Aside0.mk (blk_below (g := gb142) (o := .cells #[.int .u64 a0_0, .int .u64 a0_1, .int .u64 a0_2, .string a0_3, .string a0_4] 29 (0, 0)) (by (with_reducible repeat (first | refine blk_drewN ?_ _ | refine blk_drew ?_ | refine blk_alloc ?_ _)); exact BK142.out) hb)
                            have n2_ := Aside0.mk (blk_below (g := gb143) (o := .cells #[.int .u64 a1_0, .int .u64 a1_1, .int .u64 a1_2, .string a1_3, .string a1_4] 29 (0, 0)) (by (with_reducible repeat (first | refine blk_drewN ?_ _ | refine blk_drew ?_ | refine blk_alloc ?_ _)); exact BK143.out) hb)
                            have n3_ := Aside0.mk (blk_below (g := gb144) (o := .cells #[.int .u64 a2_0, .int .u64 a2_1, .int .u64 a2_2, .string a2_3, .string a2_4] 29 (0, 0)) (by (with_reducible repeat (first | refine blk_drewN ?_ _ | refine blk_drew ?_ | refine blk_alloc ?_ _)); exact BK144.out) hb)
                            have n4_ := Aside0.mk (below_step (by repeat (first | (with_reducible first | exact HB.out | apply below_alloc | apply pw_below_drewN | apply below_drew1 | refine below_set ?_ GE142.out | refine below_set ?_ GE143.out | refine below_set ?_ GE144.out) | exact HB.out)) hb)
                            clear HO150
                            clear BK142
                            clear BK143
                            clear BK144
                            clear HB
                            have HO150 := n0_
                            have BK142 := n1_
                            have BK143 := n2_
                            have BK144 := n3_
                            have HB := n4_
                            clear n0_ n1_ n2_ n3_ n4_
                            (try clear hb)
                            (try clear hb2)
                            (try clear hk)
                            (try clear hi)
                            refine hK.out _ _ ⟨(blk_cell BK142.out 0).trans rfl, (blk_cell BK142.out 1).trans rfl, (blk_cell BK142.out 2).trans rfl, (blk_cell BK142.out 3).trans rfl, (blk_cell BK142.out 4).trans rfl, (blk_cell BK143.out 0).trans rfl, (blk_cell BK143.out 1).trans rfl, (blk_cell BK143.out 2).trans rfl, (blk_cell BK143.out 3).trans rfl, (blk_cell BK143.out 4).trans rfl⟩ (fun hHeld => ?_)
                            clear hK K
                            refine norm_ (a' := ?_) ?_ ?_
                            rotate_left
                            · show Act.put _ (some 40) _ = _
                              simp only [Act.put, List.setIfInBounds_toArray, List.set_cons_zero, List.set_cons_succ, i64_w, i32_w]
                              rfl
                            refine one_ (i := 3) (N := some 42) #[true, true, true, true, false, false] rfl rfl (by kernel_rfl) (by decide) (fun K hK => ?_)
                            refine goes_ Tryd.func28 (by kernel_rfl) rfl #[.agg #[.int .u64 a1_0, .int .u64 a1_1, .int .u64 a1_2, .string a1_3, .string a1_4], .string (⟨#[]⟩ : ByteArray)] (by rfl) rfl rfl (by (try simp only [List.map_toArray, List.map_cons, List.map_nil]); first | done | rfl | (simp only [List.length_drop, List.length_take]; rfl)) ?_
                            with_reducible refine (laws_svMeta.calls a1_0 a1_1 a1_2 a1_3 a1_4 (⟨#[]⟩ : ByteArray) t160 t161 t162 t163 t164 _ A40.out).mono ?_
                            rintro e w187 ⟨rfl, hb⟩
                            refine ⟨_, rfl, ?_⟩
                            have n0_ := Aside0.mk (Kd.R_below (by (with_reducible repeat (first | apply Kd.R_alloc | apply Kd.R_drewN | apply Kd.R_drew)); exact HO150.out) hb)
                            have n1_ := Aside0.mk (blk_below (g := gb142) (o := .cells #[.int .u64 a0_0, .int .u64 a0_1, .int .u64 a0_2, .string a0_3, .string a0_4] 29 (0, 0)) (by (with_reducible repeat (first | refine blk_drewN ?_ _ | refine blk_drew ?_ | refine blk_alloc ?_ _)); exact BK142.out) hb)
                            have n2_ := Aside0.mk (blk_below (g := gb143) (o := .cells #[.int .u64 a1_0, .int .u64 a1_1, .int .u64 a1_2, .string a1_3, .string a1_4] 29 (0, 0)) (by (with_reducible repeat (first | refine blk_drewN ?_ _ | refine blk_drew ?_ | refine blk_alloc ?_ _)); exact BK143.out) hb)
                            have n3_ := Aside0.mk (blk_below (g := gb144) (o := .cells #[.int .u64 a2_0, .int .u64 a2_1, .int .u64 a2_2, .string a2_3, .string a2_4] 29 (0, 0)) (by (with_reducible repeat (first | refine blk_drewN ?_ _ | refine blk_drew ?_ | refine blk_alloc ?_ _)); exact BK144.out) hb)
                            have n4_ := Aside0.mk (below_step (by repeat (first | (with_reducible first | exact HB.out | apply below_alloc | apply pw_below_drewN | apply below_drew1 | refine below_set ?_ GE142.out | refine below_set ?_ GE143.out | refine below_set ?_ GE144.out) | exact HB.out)) hb)
                            clear HO150
                            clear BK142
                            clear BK143
                            clear BK144
                            clear HB
                            have HO150 := n0_
                            have BK142 := n1_
                            have BK143 := n2_
                            have BK144 := n3_
                            have HB := n4_
                            clear n0_ n1_ n2_ n3_ n4_
                            (try clear hb)
                            (try clear hb2)
                            (try clear hk)
                            (try clear hi)
                            refine hK.out _ _ ⟨(blk_cell BK142.out 0).trans rfl, (blk_cell BK142.out 1).trans rfl, (blk_cell BK142.out 2).trans rfl, (blk_cell BK142.out 3).trans rfl, (blk_cell BK142.out 4).trans rfl, (blk_cell BK143.out 0).trans rfl, (blk_cell BK143.out 1).trans rfl, (blk_cell BK143.out 2).trans rfl, (blk_cell BK143.out 3).trans rfl, (blk_cell BK143.out 4).trans rfl⟩ (fun hHeld => ?_)
                            clear hK K
                            refine norm_ (a' := ?_) ?_ ?_
                            rotate_left
                            · show Act.put _ (some 42) _ = _
                              simp only [Act.put, List.setIfInBounds_toArray, List.set_cons_zero, List.set_cons_succ, i64_w, i32_w]
                              rfl
                            refine pure_ (i := 4) (N := some 43) (v := ?_) (a' := ?_) #[true, true, true, true, true, false] rfl rfl (by kernel_rfl) (fun _ _ _ h => h) (Or.inl ⟨by rfl, ?_⟩) ?_ ?_
                            rotate_left
                            · intro w'
                              go_simp
                              with_reducible rfl
                            rotate_left
                            · simp only [Act.put, List.setIfInBounds_toArray, List.set_cons_zero, List.set_cons_succ, i64_w, i32_w]
                              rfl
                            refine pure_ (i := 5) (N := some 10) (v := ?_) (a' := ?_) #[true, true, true, true, true, true] rfl rfl (by kernel_rfl) (fun _ _ _ h => h) (Or.inl ⟨by rfl, ?_⟩) ?_ ?_
                            rotate_left
                            · intro w'
                              go_simp
                              with_reducible rfl
                            rotate_left
                            · simp only [Act.put, List.setIfInBounds_toArray, List.set_cons_zero, List.set_cons_succ, i64_w, i32_w]
                              rfl
                            refine done_ (by kernel_rfl) ?_
                            have hcz188_0 : w187.cell? ⟨gb143, 0, none⟩ = some (.int .u64 a1_0) := (blk_cell BK143.out 0).trans rfl
                            have hcz188_1 : w187.cell? ⟨gb143, 1, none⟩ = some (.int .u64 a1_1) := (blk_cell BK143.out 1).trans rfl
                            have hcz188_2 : w187.cell? ⟨gb143, 2, none⟩ = some (.int .u64 a1_2) := (blk_cell BK143.out 2).trans rfl
                            have hcz188_3 : w187.cell? ⟨gb143, 3, none⟩ = some (.string a1_3) := (blk_cell BK143.out 3).trans rfl
                            have hcz188_4 : w187.cell? ⟨gb143, 4, none⟩ = some (.string a1_4) := (blk_cell BK143.out 4).trans rfl
                            have hfz188_0 := blk_frozen BK143.out 0
                            have hfz188_1 := blk_frozen BK143.out 1
                            have hfz188_2 := blk_frozen BK143.out 2
                            have hfz188_3 := blk_frozen BK143.out 3
                            have hfz188_4 := blk_frozen BK143.out 4
                            have hcz189_0 : w187.cell? ⟨gb142, 0, none⟩ = some (.int .u64 a0_0) := (blk_cell BK142.out 0).trans rfl
                            have hcz189_1 : w187.cell? ⟨gb142, 1, none⟩ = some (.int .u64 a0_1) := (blk_cell BK142.out 1).trans rfl
                            have hcz189_2 : w187.cell? ⟨gb142, 2, none⟩ = some (.int .u64 a0_2) := (blk_cell BK142.out 2).trans rfl
                            have hcz189_3 : w187.cell? ⟨gb142, 3, none⟩ = some (.string a0_3) := (blk_cell BK142.out 3).trans rfl
                            have hcz189_4 : w187.cell? ⟨gb142, 4, none⟩ = some (.string a0_4) := (blk_cell BK142.out 4).trans rfl
                            have hfz189_0 := blk_frozen BK142.out 0
                            have hfz189_1 := blk_frozen BK142.out 1
                            have hfz189_2 := blk_frozen BK142.out 2
                            have hfz189_3 := blk_frozen BK142.out 3
                            have hfz189_4 := blk_frozen BK142.out 4
                            try go_wp2_with (first | ((with_reducible refine gate_callee (f := 27) rfl ?_); refine goesL_ (some 46) rfl rfl Tryd.func27 (by kernel_rfl) rfl #[.agg #[.int .u64 a1_0, .int .u64 a1_1, .int .u64 a1_2, .string a1_3, .string a1_4], .agg #[.int .u64 a0_0, .int .u64 a0_1, .int .u64 a0_2, .string a0_3, .string a0_4]] rfl (by (try simp only [List.map_toArray, List.map_cons, List.map_nil]); first | done | rfl | (simp only [List.length_drop, List.length_take]; rfl)) ?_; (with_reducible refine (Hand.VersionCompare.calls a1_0 a1_1 a1_2 a1_3 a1_4 a0_0 a0_1 a0_2 a0_3 a0_4 t165 _ ?gl7 A41.out).mono ?_); (case gl7 => first | exact HG.out | exact Hand.Gl.below HG.out (by repeat (first | (with_reducible first | exact HB.out | apply below_alloc | apply pw_below_drewN | apply below_drew1) | exact HB.out))); rintro e w190 ⟨rfl, hb⟩; refine ⟨_, rfl, ?_⟩; have n0_ := Aside0.mk (Kd.R_below (by (with_reducible repeat (first | apply Kd.R_alloc | apply Kd.R_drewN | apply Kd.R_drew)); exact HO150.out) hb); have n1_ := Aside0.mk (blk_below (g := gb142) (o := .cells #[.int .u64 a0_0, .int .u64 a0_1, .int .u64 a0_2, .string a0_3, .string a0_4] 29 (0, 0)) (by (with_reducible repeat (first | refine blk_drewN ?_ _ | refine blk_drew ?_ | refine blk_alloc ?_ _)); exact BK142.out) hb); have n2_ := Aside0.mk (blk_below (g := gb143) (o := .cells #[.int .u64 a1_0, .int .u64 a1_1, .int .u64 a1_2, .string a1_3, .string a1_4] 29 (0, 0)) (by (with_reducible repeat (first | refine blk_drewN ?_ _ | refine blk_drew ?_ | refine blk_alloc ?_ _)); exact BK143.out) hb); have n3_ := Aside0.mk (blk_below (g := gb144) (o := .cells #[.int .u64 a2_0, .int .u64 a2_1, .int .u64 a2_2, .string a2_3, .string a2_4] 29 (0, 0)) (by (with_reducible repeat (first | refine blk_drewN ?_ _ | refine blk_drew ?_ | refine blk_alloc ?_ _)); exact BK144.out) hb); have n4_ := Aside0.mk (below_step (by repeat (first | (with_reducible first | exact HB.out | apply below_alloc | apply pw_below_drewN | apply below_drew1 | refine below_set ?_ GE142.out | refine below_set ?_ GE143.out | refine below_set ?_ GE144.out) | exact HB.out)) hb); clear HO150; clear BK142; clear BK143; clear BK144; clear HB; have HO150 := n0_; have BK142 := n1_; have BK143 := n2_; have BK144 := n3_; have HB := n4_; clear n0_ n1_ n2_ n3_ n4_; (try clear hb); (try clear hb2); (try clear hk); (try clear hi)))
                            go_ret
                            exact ⟨by first | rfl | (simp [errW_none, errW_some] <;> rfl) | (simp [*, errW_none, errW_some] <;> rfl), by repeat (first | (with_reducible first | exact HB.out | apply below_alloc | apply pw_below_drewN | apply below_drew1 | refine below_set ?_ GE142.out | refine below_set ?_ GE143.out | refine below_set ?_ GE144.out) | exact HB.out)⟩
                          · exact absurd ((HQ.out.2.2.2.2 (of_decide_eq_false c106b0) (of_decide_eq_false c127b0)).2 (of_decide_eq_false c149b0)) c170
                      · exact absurd (HQ.out.2.2.2.2 (of_decide_eq_false c106b0) (of_decide_eq_false c127b0)).1 c148
          · exact absurd HQ.out.1 c42
        · replace c35 := Bool.eq_false_iff.mpr c35
          subst c35
          have H1 : (some true) = some r := by rw [if_neg (show ¬ (false = true) by decide)] at H; exact H
          clear H
          have H := H1
          clear H1
          obtain rfl := Option.some.inj H
          have hnb251 := NB142_143.out
          have hnc251 := NB143_142.out
          have hnb252 := NB142_144.out
          have hnc252 := NB144_142.out
          have hcz253_0 : wc.cell? ⟨gb142, 0, none⟩ = some (.int .u64 a0_0) := (blk_cell BK142.out 0).trans rfl
          have hcz253_1 : wc.cell? ⟨gb142, 1, none⟩ = some (.int .u64 a0_1) := (blk_cell BK142.out 1).trans rfl
          have hcz253_2 : wc.cell? ⟨gb142, 2, none⟩ = some (.int .u64 a0_2) := (blk_cell BK142.out 2).trans rfl
          have hcz253_3 : wc.cell? ⟨gb142, 3, none⟩ = some (.string a0_3) := (blk_cell BK142.out 3).trans rfl
          have hcz253_4 : wc.cell? ⟨gb142, 4, none⟩ = some (.string a0_4) := (blk_cell BK142.out 4).trans rfl
          have hfz253_0 := blk_frozen BK142.out 0
          have hfz253_1 := blk_frozen BK142.out 1
          have hfz253_2 := blk_frozen BK142.out 2
          have hfz253_3 := blk_frozen BK142.out 3
          have hfz253_4 := blk_frozen BK142.out 4
          have hnb254 := NB143_144.out
          have hnc254 := NB144_143.out
          have hcz255_0 : wc.cell? ⟨gb143, 0, none⟩ = some (.int .u64 a1_0) := (blk_cell BK143.out 0).trans rfl
          have hcz255_1 : wc.cell? ⟨gb143, 1, none⟩ = some (.int .u64 a1_1) := (blk_cell BK143.out 1).trans rfl
          have hcz255_2 : wc.cell? ⟨gb143, 2, none⟩ = some (.int .u64 a1_2) := (blk_cell BK143.out 2).trans rfl
          have hcz255_3 : wc.cell? ⟨gb143, 3, none⟩ = some (.string a1_3) := (blk_cell BK143.out 3).trans rfl
          have hcz255_4 : wc.cell? ⟨gb143, 4, none⟩ = some (.string a1_4) := (blk_cell BK143.out 4).trans rfl
          have hfz255_0 := blk_frozen BK143.out 0
          have hfz255_1 := blk_frozen BK143.out 1
          have hfz255_2 := blk_frozen BK143.out 2
          have hfz255_3 := blk_frozen BK143.out 3
          have hfz255_4 := blk_frozen BK143.out 4
          have hcz256_0 : wc.cell? ⟨gb144, 0, none⟩ = some (.int .u64 a2_0) := (blk_cell BK144.out 0).trans rfl
          have hcz256_1 : wc.cell? ⟨gb144, 1, none⟩ = some (.int .u64 a2_1) := (blk_cell BK144.out 1).trans rfl
          have hcz256_2 : wc.cell? ⟨gb144, 2, none⟩ = some (.int .u64 a2_2) := (blk_cell BK144.out 2).trans rfl
          have hcz256_3 : wc.cell? ⟨gb144, 3, none⟩ = some (.string a2_3) := (blk_cell BK144.out 3).trans rfl
          have hcz256_4 : wc.cell? ⟨gb144, 4, none⟩ = some (.string a2_4) := (blk_cell BK144.out 4).trans rfl
          have hfz256_0 := blk_frozen BK144.out 0
          have hfz256_1 := blk_frozen BK144.out 1
          have hfz256_2 := blk_frozen BK144.out 2
          have hfz256_3 := blk_frozen BK144.out 3
          have hfz256_4 := blk_frozen BK144.out 4
          go_wp2_with (first | ((with_reducible refine gate_dst (N := 27) rfl ?_); refine Kd.R_lit k29 _ 29 ?hg (N := 27) ?hd (xs := ([(⟨a0_0, a0_1, a0_2, a0_3, a0_4⟩ : S29), (⟨a1_0, a1_1, a1_2, a1_3, a1_4⟩ : S29), (⟨a2_0, a2_1, a2_2, a2_3, a2_4⟩ : S29)] : List (S29))) (inner := [.int .u64 a0_0, .int .u64 a0_1, .int .u64 a0_2, .string a0_3, .string a0_4, .int .u64 a1_0, .int .u64 a1_1, .int .u64 a1_2, .string a1_3, .string a1_4, .int .u64 a2_0, .int .u64 a2_1, .int .u64 a2_2, .string a2_3, .string a2_4]) (ok := fun _ => True) (okp := fun _ => True) ?hr ?hp (fun _ hk => hk) trivial (Below.refl _ _) (Nat.le_refl _) (by simp) ?_; (case hd => rfl); (case hg => rfl); (case hr => first | (go_simp; done) | (go_simp; rfl)); (case hp => exact (Reps.c5 (show Kd.M k29 _ _ _ (⟨a0_0, a0_1, a0_2, a0_3, a0_4⟩ : S29) [.int .u64 a0_0, .int .u64 a0_1, .int .u64 a0_2, .string a0_3, .string a0_4] from (k29_mkM _ _ _ (⟨a0_0, a0_1, a0_2, a0_3, a0_4⟩ : S29) )) (Reps.c5 (show Kd.M k29 _ _ _ (⟨a1_0, a1_1, a1_2, a1_3, a1_4⟩ : S29) [.int .u64 a1_0, .int .u64 a1_1, .int .u64 a1_2, .string a1_3, .string a1_4] from (k29_mkM _ _ _ (⟨a1_0, a1_1, a1_2, a1_3, a1_4⟩ : S29) )) (Reps.c5 (show Kd.M k29 _ _ _ (⟨a2_0, a2_1, a2_2, a2_3, a2_4⟩ : S29) [.int .u64 a2_0, .int .u64 a2_1, .int .u64 a2_2, .string a2_3, .string a2_4] from (k29_mkM _ _ _ (⟨a2_0, a2_1, a2_2, a2_3, a2_4⟩ : S29) )) (Reps.none _ _))))); intro v149 w257 ho258 hb hg_ hnew_; clear hg_ hnew_; (first | rw [← Ny148.out] at ho258 | (simp only [Int.reduceToNat] at ho258; rw [← Ny148.out] at ho258)); have n0_ := Aside0.mk (Kd.R_lower (Kd.R_newB (Kd.R_newB (Kd.R_newB ho258 (g := gb142) (o := .cells #[.int .u64 a0_0, .int .u64 a0_1, .int .u64 a0_2, .string a0_3, .string a0_4] 29 (0, 0)) (by (with_reducible repeat (first | refine blk_drewN ?_ _ | refine blk_drew ?_ | refine blk_alloc ?_ _)); exact BK142.out)) (g := gb143) (o := .cells #[.int .u64 a1_0, .int .u64 a1_1, .int .u64 a1_2, .string a1_3, .string a1_4] 29 (0, 0)) (by (with_reducible repeat (first | refine blk_drewN ?_ _ | refine blk_drew ?_ | refine blk_alloc ?_ _)); exact BK143.out)) (g := gb144) (o := .cells #[.int .u64 a2_0, .int .u64 a2_1, .int .u64 a2_2, .string a2_3, .string a2_4] 29 (0, 0)) (by (with_reducible repeat (first | refine blk_drewN ?_ _ | refine blk_drew ?_ | refine blk_alloc ?_ _)); exact BK144.out)) (below_size (by repeat (first | (with_reducible first | exact HB.out | apply below_alloc | apply pw_below_drewN | apply below_drew1 | refine below_set ?_ GE142.out | refine below_set ?_ GE143.out | refine below_set ?_ GE144.out) | exact HB.out)))); have n1_ := Aside0.mk (blk_below (g := gb142) (o := .cells #[.int .u64 a0_0, .int .u64 a0_1, .int .u64 a0_2, .string a0_3, .string a0_4] 29 (0, 0)) (by (with_reducible repeat (first | refine blk_drewN ?_ _ | refine blk_drew ?_ | refine blk_alloc ?_ _)); exact BK142.out) hb); have n2_ := Aside0.mk (blk_below (g := gb143) (o := .cells #[.int .u64 a1_0, .int .u64 a1_1, .int .u64 a1_2, .string a1_3, .string a1_4] 29 (0, 0)) (by (with_reducible repeat (first | refine blk_drewN ?_ _ | refine blk_drew ?_ | refine blk_alloc ?_ _)); exact BK143.out) hb); have n3_ := Aside0.mk (blk_below (g := gb144) (o := .cells #[.int .u64 a2_0, .int .u64 a2_1, .int .u64 a2_2, .string a2_3, .string a2_4] 29 (0, 0)) (by (with_reducible repeat (first | refine blk_drewN ?_ _ | refine blk_drew ?_ | refine blk_alloc ?_ _)); exact BK144.out) hb); have n4_ := Aside0.mk (below_step (by repeat (first | (with_reducible first | exact HB.out | apply below_alloc | apply pw_below_drewN | apply below_drew1 | refine below_set ?_ GE142.out | refine below_set ?_ GE143.out | refine below_set ?_ GE144.out) | exact HB.out)) hb); clear BK142; clear BK143; clear BK144; clear HB; have HO150 := n0_; have BK142 := n1_; have BK143 := n2_; have BK144 := n3_; have HB := n4_; clear n0_ n1_ n2_ n3_ n4_; clear hb ho258; obtain ⟨Ao259, co259, eo259⟩ := Kd.R_slice HO150.out; subst eo259) | ((with_reducible refine gate_callee (f := 26) rfl ?_); refine goesL_ (some 28) rfl rfl Tryd.func26 (by kernel_rfl) rfl #[.slice Ao259 y148.length co259] rfl (by (try simp only [List.map_toArray, List.map_cons, List.map_nil]); first | done | rfl | (simp only [List.length_drop, List.length_take]; rfl)) ?_; (with_reducible refine (laws_svGood.calls kj3 _ _ y148 false _ ?side1 ?side2 A34.out).mono ?_); (case side1 => repeat (first | exact (Kd.R_reads' HO150.out).2.2 | (with_reducible refine Kd.C_alloc ?_ _) | (with_reducible refine Kd.C_drewN ?_ _) | (with_reducible refine Kd.C_drew ?_))); (case side2 => exact (Kd.R_reads' HO150.out).2.1); rintro e w260 ⟨rfl, hb⟩; refine ⟨_, rfl, ?_⟩; have n0_ := Aside0.mk (Kd.R_below (by (with_reducible repeat (first | apply Kd.R_alloc | apply Kd.R_drewN | apply Kd.R_drew)); exact HO150.out) hb); have n1_ := Aside0.mk (blk_below (g := gb142) (o := .cells #[.int .u64 a0_0, .int .u64 a0_1, .int .u64 a0_2, .string a0_3, .string a0_4] 29 (0, 0)) (by (with_reducible repeat (first | refine blk_drewN ?_ _ | refine blk_drew ?_ | refine blk_alloc ?_ _)); exact BK142.out) hb); have n2_ := Aside0.mk (blk_below (g := gb143) (o := .cells #[.int .u64 a1_0, .int .u64 a1_1, .int .u64 a1_2, .string a1_3, .string a1_4] 29 (0, 0)) (by (with_reducible repeat (first | refine blk_drewN ?_ _ | refine blk_drew ?_ | refine blk_alloc ?_ _)); exact BK143.out) hb); have n3_ := Aside0.mk (blk_below (g := gb144) (o := .cells #[.int .u64 a2_0, .int .u64 a2_1, .int .u64 a2_2, .string a2_3, .string a2_4] 29 (0, 0)) (by (with_reducible repeat (first | refine blk_drewN ?_ _ | refine blk_drew ?_ | refine blk_alloc ?_ _)); exact BK144.out) hb); have n4_ := Aside0.mk (below_step (by repeat (first | (with_reducible first | exact HB.out | apply below_alloc | apply pw_below_drewN | apply below_drew1 | refine below_set ?_ GE142.out | refine below_set ?_ GE143.out | refine below_set ?_ GE144.out) | exact HB.out)) hb); clear HO150; clear BK142; clear BK143; clear BK144; clear HB; have HO150 := n0_; have BK142 := n1_; have BK143 := n2_; have BK144 := n3_; have HB := n4_; clear n0_ n1_ n2_ n3_ n4_; (try clear hb); (try clear hb2); (try clear hk); (try clear hi)))
          go_ret
          exact ⟨by first | rfl | (simp [errW_none, errW_some] <;> rfl) | (simp [*, errW_none, errW_some] <;> rfl), by repeat (first | (with_reducible first | exact HB.out | apply below_alloc | apply pw_below_drewN | apply below_drew1 | refine below_set ?_ GE142.out | refine below_set ?_ GE143.out | refine below_set ?_ GE144.out) | exact HB.out)⟩

end Go.Proofs.YtalpehfjjidfhaaDoor.MQ
