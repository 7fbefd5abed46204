-- Written by a program of this session (wip/tools/myprint.py over the kit's print).
import Derived.Test.YtalpehfjjidfhaaDoorMDx0
import Derived.Test.YtalpehfjjidfhaaDoorMDx1
import Derived.Test.YtalpehfjjidfhaaDoorMDx2
namespace Go.Proofs.YtalpehfjjidfhaaDoor.MD
open Go.RowKit Go.Proofs.YtalpehfjjidfhaaDoorW.PrintWords Go.Proofs.YtalpehfjjidfhaaDoorW.PrintLast Go.Proofs.YtalpehfjjidfhaaDoorW.PrintMore Go.Proofs.YtalpehfjjidfhaaDoor
attribute [local go_sem] max2_int min2_int max_two min_two max_three min_three max_four min_four   -- for this text's walks alone
set_option linter.unusedVariables false
set_option linter.unusedSimpArgs false

/-! ### laws_FnSemverLeastCompares: function 10 -/
def laws_FnSemverLeastCompares.j0 : Nat → Bool → Int → Int → Int → ByteArray → ByteArray → Int → Int → Int → ByteArray → ByteArray → Option (Bool)
  | 0, _, _, _, _, _, _, _, _, _, _, _ => none
  | k + 1, x12, x141000, x141001, x141002, x141003, x141004, x142000, x142001, x142002, x142003, x142004 => if x12 = true then (some true) else ((laws_svGood.f k (([(⟨x141000, x141001, x141002, x141003, x141004⟩ : S29), (⟨x142000, x142001, x142002, x142003, x142004⟩ : S29)] : List (S29)))).bind fun t147 => (if t147 = true then ((Hand.stTerm.f 0 x142000 x142001 x142002 x142003 x142004 3).bind fun bt148 => ((Hand.LeastHolds.f bt148.1 bt148.2.1 bt148.2.2.1 bt148.2.2.2.1 bt148.2.2.2.2.1 bt148.2.2.2.2.2 x141000 x141001 x141002 x141003 x141004 true).bind fun t154 => ((Hand.VersionGreaterEqual.f x141000 x141001 x141002 x141003 x141004 x142000 x142001 x142002 x142003 x142004).bind fun t155 => (if (t154 == t155) = true then ((Hand.stTerm.f 0 x141000 x141001 x141002 x141003 x141004 3).bind fun bt156 => ((Hand.LeastHolds.f bt156.1 bt156.2.1 bt156.2.2.1 bt156.2.2.2.1 bt156.2.2.2.2.1 bt156.2.2.2.2.2 x141000 x141001 x141002 x141003 x141004 true).bind fun t162 => (some t162))) else (some false))))) else (some true)))
def laws_FnSemverLeastCompares.f (k : Nat) (a0_0 : Int) (a0_1 : Int) (a0_2 : Int) (a0_3 : ByteArray) (a0_4 : ByteArray) (a1_0 : Int) (a1_1 : Int) (a1_2 : Int) (a1_3 : ByteArray) (a1_4 : ByteArray) : Option (Bool) := (laws_zzFits14.f a0_0 a0_1 a0_2 a0_3 a0_4).bind fun t142 => (if t142 = true then ((laws_zzFits14.f a1_0 a1_1 a1_2 a1_3 a1_4).bind fun t143 => (laws_FnSemverLeastCompares.j0 k (!t143) a0_0 a0_1 a0_2 a0_3 a0_4 a1_0 a1_1 a1_2 a1_3 a1_4)) else (laws_FnSemverLeastCompares.j0 k true a0_0 a0_1 a0_2 a0_3 a0_4 a1_0 a1_1 a1_2 a1_3 a1_4))
theorem laws_FnSemverLeastCompares.mono_l : ∀ k, (∀ y0 y1 y2 y3 y4 y5 y6 y7 y8 y9 y10, LeO (laws_FnSemverLeastCompares.j0 k y0 y1 y2 y3 y4 y5 y6 y7 y8 y9 y10) (laws_FnSemverLeastCompares.j0 (k + 1) y0 y1 y2 y3 y4 y5 y6 y7 y8 y9 y10))
  | 0 => fun _ _ _ _ _ _ _ _ _ _ _ r h => by simp [laws_FnSemverLeastCompares.j0] at h
  | k + 1 => by
    have ih0 := laws_FnSemverLeastCompares.mono_l k
    · intro y0 y1 y2 y3 y4 y5 y6 y7 y8 y9 y10
      unfold laws_FnSemverLeastCompares.j0
      repeat' first
      | (with_reducible exact ih0 _ _ _ _ _ _ _ _ _ _ _)
      | (with_reducible exact laws_svGood.mono _ _)
      | (with_reducible exact LeO.refl _)
      | (with_reducible exact LeO.none _)
      | (with_reducible refine LeO.ite ?_ ?_)
      | (with_reducible refine LeO.bind ?_ (fun _ => ?_))
      | exact ih0 _ _ _ _ _ _ _ _ _ _ _
      | exact laws_svGood.mono _ _
      | exact LeO.none _
      | refine LeO.ite ?_ ?_
      | refine LeO.bind ?_ (fun _ => ?_)
theorem laws_FnSemverLeastCompares.mono : ∀ a0 a1 a2 a3 a4 a5 a6 a7 a8 a9 k, LeO (laws_FnSemverLeastCompares.f k a0 a1 a2 a3 a4 a5 a6 a7 a8 a9) (laws_FnSemverLeastCompares.f (k + 1) a0 a1 a2 a3 a4 a5 a6 a7 a8 a9) := by
  intro a0 a1 a2 a3 a4 a5 a6 a7 a8 a9 k
  have ih0 := laws_FnSemverLeastCompares.mono_l k
  unfold laws_FnSemverLeastCompares.f
  repeat' first
      | (with_reducible exact ih0 _ _ _ _ _ _ _ _ _ _ _)
      | (with_reducible exact laws_svGood.mono _ _)
      | (with_reducible exact LeO.refl _)
      | (with_reducible exact LeO.none _)
      | (with_reducible refine LeO.ite ?_ ?_)
      | (with_reducible refine LeO.bind ?_ (fun _ => ?_))
      | exact ih0 _ _ _ _ _ _ _ _ _ _ _
      | exact laws_svGood.mono _ _
      | exact LeO.none _
      | refine LeO.ite ?_ ?_
      | refine LeO.bind ?_ (fun _ => ?_)
def laws_FnSemverLeastCompares.T5 : Bool × List (List Nat × List Nat) := (true, [([], []), ([0], [0]), ([], []), ([1, 2, 1], [1, 2]), ([], []), ([], []), ([4, 5, 3], [4, 5]), ([3, 6], [3, 6]), ([7, 6], [7]), ([8], [8]), ([9, 8, 8], [8, 9]), ([8], [8]), ([10, 11, 10, 8], [8, 10, 11]), ([8, 12], [8, 12]), ([13, 12, 0, 1, 2, 3, 4, 5, 6, 7, 8, 9, 10, 11, 12, 13], [13])])
def laws_FnSemverLeastCompares.B5 : List Nat := [0, 1, 0, 7, 0, 0, 63, 127, 255, 511, 1023, 511, 4095, 8191, 16383]
theorem laws_FnSemverLeastCompares.tab5 : rtab .any (opsOf Tryd.f10 5) = laws_FnSemverLeastCompares.T5 := by kernel_rfl
theorem laws_FnSemverLeastCompares.bits5 : waitsOk laws_FnSemverLeastCompares.T5.2 laws_FnSemverLeastCompares.B5 = true := by kernel_rfl
set_option maxHeartbeats 8000000 in
set_option maxRecDepth 100000 in
theorem laws_FnSemverLeastCompares.calls (k : Nat) (a0_0 : Int) (a0_1 : Int) (a0_2 : Int) (a0_3 : ByteArray) (a0_4 : ByteArray) (a1_0 : Int) (a1_1 : Int) (a1_2 : Int) (a1_3 : ByteArray) (a1_4 : ByteArray) (r : Bool) (w : World) (hG0 : Hand.Gl w) (h : laws_FnSemverLeastCompares.f k a0_0 a0_1 a0_2 a0_3 a0_4 a1_0 a1_1 a1_2 a1_3 a1_4 = some r) :
    Calls Tryd.prog 10 #[.agg #[.int .u64 a0_0, .int .u64 a0_1, .int .u64 a0_2, .string a0_3, .string a0_4], .agg #[.int .u64 a1_0, .int .u64 a1_1, .int .u64 a1_2, .string a1_3, .string a1_4]] w fun e w' => e = .returned (.bool r) ∧ Below w.heap.size w w' := by
  have HG := Aside0.mk hG0
  clear hG0
  have hu29 := Tryd.underlying29
  have HB := Aside0.mk (Below.refl w.heap.size w)
  have H : ((laws_zzFits14.f a0_0 a0_1 a0_2 a0_3 a0_4).bind fun t142 => (if t142 = true then ((laws_zzFits14.f a1_0 a1_1 a1_2 a1_3 a1_4).bind fun t143 => (laws_FnSemverLeastCompares.j0 k (!t143) a0_0 a0_1 a0_2 a0_3 a0_4 a1_0 a1_1 a1_2 a1_3 a1_4)) else (laws_FnSemverLeastCompares.j0 k true a0_0 a0_1 a0_2 a0_3 a0_4 a1_0 a1_1 a1_2 a1_3 a1_4))) = some r := h
  clear h
  have HC3 := Aside0.mk H
  clear H
  go_enter Tryd.func10, Tryd.ntmps10
  go_upto_region 1 with (first | ((with_reducible refine gate_dst (N := 2) rfl ?_); refine box_event ?hg (N := 2) ?hd (cs := #[.int .u64 a0_0, .int .u64 a0_1, .int .u64 a0_2, .string a0_3, .string a0_4]) (t := 29) ?hr ?_; (case hd => rfl); (case hg => rfl); (case hr => first | (go_simp; done) | (go_simp; rfl)); intro gb140 hg w4 hbox hb; have n0_ := Aside0.mk (below_step (by repeat (first | (with_reducible first | exact HB.out | apply below_alloc | apply pw_below_drewN | apply below_drew1) | exact HB.out)) hb); have n1_ := Aside0.mk (hbox); have n2_ := Aside0.mk ((by rw [hg]; exact (below_size (by repeat (first | (with_reducible first | exact HB.out | apply below_alloc | apply pw_below_drewN | apply below_drew1) | exact HB.out))) : w.heap.size ≤ gb140)); have n3_ := Aside0.mk ((by rw [hg]; exact (below_size (by repeat (first | (with_reducible first | exact HB.out | apply below_alloc | apply pw_below_drewN | apply below_drew1) | exact HB.out))) : w.heap.size ≤ gb140)); clear HB; have HB := n0_; have BK140 := n1_; have GW140 := n2_; have GE140 := n3_; clear n0_ n1_ n2_ n3_; clear hb hbox hg) | ((with_reducible refine gate_dst (N := 3) rfl ?_); refine box_event ?hg (N := 3) ?hd (cs := #[.int .u64 a1_0, .int .u64 a1_1, .int .u64 a1_2, .string a1_3, .string a1_4]) (t := 29) ?hr ?_; (case hd => rfl); (case hg => rfl); (case hr => first | (go_simp; done) | (go_simp; rfl)); intro gb141 hg w5 hbox hb; have n0_ := Aside0.mk (blk_below (g := gb140) (o := .cells #[.int .u64 a0_0, .int .u64 a0_1, .int .u64 a0_2, .string a0_3, .string a0_4] 29 (0, 0)) (by (with_reducible repeat (first | refine blk_drewN ?_ _ | refine blk_drew ?_ | refine blk_alloc ?_ _)); exact BK140.out) hb); have n1_ := Aside0.mk (below_step (by repeat (first | (with_reducible first | exact HB.out | apply below_alloc | apply pw_below_drewN | apply below_drew1 | refine below_set ?_ GE140.out) | exact HB.out)) hb); have n2_ := Aside0.mk (hbox); have n3_ := Aside0.mk ((by rw [hg]; exact (below_size (by repeat (first | (with_reducible first | exact HB.out | apply below_alloc | apply pw_below_drewN | apply below_drew1 | refine below_set ?_ GE140.out) | exact HB.out))) : w.heap.size ≤ gb141)); have n4_ := Aside0.mk ((by rw [hg]; exact (below_size (by repeat (first | (with_reducible first | exact HB.out | apply below_alloc | apply pw_below_drewN | apply below_drew1 | refine below_set ?_ GE140.out) | exact HB.out))) : w.heap.size ≤ gb141)); have n5_ := Aside0.mk ((by rw [hg]; exact Nat.ne_of_lt (blk_lt (g := gb140) (o := .cells #[.int .u64 a0_0, .int .u64 a0_1, .int .u64 a0_2, .string a0_3, .string a0_4] 29 (0, 0)) (by (with_reducible repeat (first | refine blk_drewN ?_ _ | refine blk_drew ?_ | refine blk_alloc ?_ _)); exact BK140.out)) : gb140 ≠ gb141)); have n6_ := Aside0.mk ((by rw [hg]; exact Nat.ne_of_gt (blk_lt (g := gb140) (o := .cells #[.int .u64 a0_0, .int .u64 a0_1, .int .u64 a0_2, .string a0_3, .string a0_4] 29 (0, 0)) (by (with_reducible repeat (first | refine blk_drewN ?_ _ | refine blk_drew ?_ | refine blk_alloc ?_ _)); exact BK140.out)) : gb141 ≠ gb140)); clear BK140; clear HB; have BK140 := n0_; have HB := n1_; have BK141 := n2_; have GW141 := n3_; have GE141 := n4_; have NB140_141 := n5_; have NB141_140 := n6_; clear n0_ n1_ n2_ n3_ n4_ n5_ n6_; clear hb hbox hg))
  (try simp only [Act.put, List.setIfInBounds_toArray, List.set_cons_zero, List.set_cons_succ])
  go_cut [12] (fun v12 wc => ∃ (kq : Nat) (x12_2 : Bool), v12 = .bool x12_2 ∧ Aside0 (laws_FnSemverLeastCompares.j0 kq x12_2 a0_0 a0_1 a0_2 a0_3 a0_4 a1_0 a1_1 a1_2 a1_3 a1_4 = some r) ∧ Aside0 (kq ≤ k) ∧ Aside0 (wc.heap[gb140]? = some (.cells #[.int .u64 a0_0, .int .u64 a0_1, .int .u64 a0_2, .string a0_3, .string a0_4] 29 (0, 0))) ∧ Aside0 (wc.heap[gb141]? = some (.cells #[.int .u64 a1_0, .int .u64 a1_1, .int .u64 a1_2, .string a1_3, .string a1_4] 29 (0, 0))) ∧ Aside0 (Below w.heap.size w wc))
  case first =>
    have H := HC3.out
    clear HC3
    replace H := Option.bind_eq_some_iff.mp H
    obtain ⟨t142, A60, H⟩ := H
    replace H : (if t142 = true then ((laws_zzFits14.f a1_0 a1_1 a1_2 a1_3 a1_4).bind fun t143 => (laws_FnSemverLeastCompares.j0 k (!t143) a0_0 a0_1 a0_2 a0_3 a0_4 a1_0 a1_1 a1_2 a1_3 a1_4)) else (laws_FnSemverLeastCompares.j0 k true a0_0 a0_1 a0_2 a0_3 a0_4 a1_0 a1_1 a1_2 a1_3 a1_4)) = some r := H
    have A6 := Aside0.mk A60
    clear A60
    by_cases c7 : t142 = true
    · subst c7
      have H1 : ((laws_zzFits14.f a1_0 a1_1 a1_2 a1_3 a1_4).bind fun t143 => (laws_FnSemverLeastCompares.j0 k (!t143) a0_0 a0_1 a0_2 a0_3 a0_4 a1_0 a1_1 a1_2 a1_3 a1_4)) = some r := by rw [if_pos rfl] at H; exact H
      clear H
      have H := H1
      clear H1
      replace H := Option.bind_eq_some_iff.mp H
      obtain ⟨t143, A80, H⟩ := H
      replace H : (laws_FnSemverLeastCompares.j0 k (!t143) a0_0 a0_1 a0_2 a0_3 a0_4 a1_0 a1_1 a1_2 a1_3 a1_4) = some r := H
      have A8 := Aside0.mk A80
      clear A80
      have H' := Aside0.mk H
      clear H
      have hnb9 := NB140_141.out
      have hnc9 := NB141_140.out
      have hcz10_0 : w5.cell? ⟨gb140, 0, none⟩ = some (.int .u64 a0_0) := (blk_cell BK140.out 0).trans rfl
      have hcz10_1 : w5.cell? ⟨gb140, 1, none⟩ = some (.int .u64 a0_1) := (blk_cell BK140.out 1).trans rfl
      have hcz10_2 : w5.cell? ⟨gb140, 2, none⟩ = some (.int .u64 a0_2) := (blk_cell BK140.out 2).trans rfl
      have hcz10_3 : w5.cell? ⟨gb140, 3, none⟩ = some (.string a0_3) := (blk_cell BK140.out 3).trans rfl
      have hcz10_4 : w5.cell? ⟨gb140, 4, none⟩ = some (.string a0_4) := (blk_cell BK140.out 4).trans rfl
      have hfz10_0 := blk_frozen BK140.out 0
      have hfz10_1 := blk_frozen BK140.out 1
      have hfz10_2 := blk_frozen BK140.out 2
      have hfz10_3 := blk_frozen BK140.out 3
      have hfz10_4 := blk_frozen BK140.out 4
      go_wp2_with (first | ((with_reducible refine gate_callee (f := 25) rfl ?_); refine goesL_ (some 6) rfl rfl Tryd.func25 (by kernel_rfl) rfl #[.agg #[.int .u64 a0_0, .int .u64 a0_1, .int .u64 a0_2, .string a0_3, .string a0_4]] rfl (by (try simp only [List.map_toArray, List.map_cons, List.map_nil]); first | done | rfl | (simp only [List.length_drop, List.length_take]; rfl)) ?_; (with_reducible refine (laws_zzFits14.calls a0_0 a0_1 a0_2 a0_3 a0_4 true _ A6.out).mono ?_); rintro e w11 ⟨rfl, hb⟩; refine ⟨_, rfl, ?_⟩; have n0_ := Aside0.mk (blk_below (g := gb140) (o := .cells #[.int .u64 a0_0, .int .u64 a0_1, .int .u64 a0_2, .string a0_3, .string a0_4] 29 (0, 0)) (by (with_reducible repeat (first | refine blk_drewN ?_ _ | refine blk_drew ?_ | refine blk_alloc ?_ _)); exact BK140.out) hb); have n1_ := Aside0.mk (blk_below (g := gb141) (o := .cells #[.int .u64 a1_0, .int .u64 a1_1, .int .u64 a1_2, .string a1_3, .string a1_4] 29 (0, 0)) (by (with_reducible repeat (first | refine blk_drewN ?_ _ | refine blk_drew ?_ | refine blk_alloc ?_ _)); exact BK141.out) hb); have n2_ := Aside0.mk (below_step (by repeat (first | (with_reducible first | exact HB.out | apply below_alloc | apply pw_below_drewN | apply below_drew1 | refine below_set ?_ GE140.out | refine below_set ?_ GE141.out) | exact HB.out)) hb); clear BK140; clear BK141; clear HB; have BK140 := n0_; have BK141 := n1_; have HB := n2_; clear n0_ n1_ n2_; (try clear hb); (try clear hb2); (try clear hk); (try clear hi); have hcz12_0 : w11.cell? ⟨gb141, 0, none⟩ = some (.int .u64 a1_0) := (blk_cell BK141.out 0).trans rfl; have hcz12_1 : w11.cell? ⟨gb141, 1, none⟩ = some (.int .u64 a1_1) := (blk_cell BK141.out 1).trans rfl; have hcz12_2 : w11.cell? ⟨gb141, 2, none⟩ = some (.int .u64 a1_2) := (blk_cell BK141.out 2).trans rfl; have hcz12_3 : w11.cell? ⟨gb141, 3, none⟩ = some (.string a1_3) := (blk_cell BK141.out 3).trans rfl; have hcz12_4 : w11.cell? ⟨gb141, 4, none⟩ = some (.string a1_4) := (blk_cell BK141.out 4).trans rfl; have hfz12_0 := blk_frozen BK141.out 0; have hfz12_1 := blk_frozen BK141.out 1; have hfz12_2 := blk_frozen BK141.out 2; have hfz12_3 := blk_frozen BK141.out 3; have hfz12_4 := blk_frozen BK141.out 4) | (go_at_call 25; (with_reducible refine (laws_zzFits14.calls a1_0 a1_1 a1_2 a1_3 a1_4 t143 _ A8.out).mono ?_); rintro e w13 ⟨rfl, hb⟩; have n0_ := Aside0.mk (blk_below (g := gb140) (o := .cells #[.int .u64 a0_0, .int .u64 a0_1, .int .u64 a0_2, .string a0_3, .string a0_4] 29 (0, 0)) (by (with_reducible repeat (first | refine blk_drewN ?_ _ | refine blk_drew ?_ | refine blk_alloc ?_ _)); exact BK140.out) hb); have n1_ := Aside0.mk (blk_below (g := gb141) (o := .cells #[.int .u64 a1_0, .int .u64 a1_1, .int .u64 a1_2, .string a1_3, .string a1_4] 29 (0, 0)) (by (with_reducible repeat (first | refine blk_drewN ?_ _ | refine blk_drew ?_ | refine blk_alloc ?_ _)); exact BK141.out) hb); have n2_ := Aside0.mk (below_step (by repeat (first | (with_reducible first | exact HB.out | apply below_alloc | apply pw_below_drewN | apply below_drew1 | refine below_set ?_ GE140.out | refine below_set ?_ GE141.out) | exact HB.out)) hb); clear BK140; clear BK141; clear HB; have BK140 := n0_; have BK141 := n1_; have HB := n2_; clear n0_ n1_ n2_; (try clear hb); (try clear hb2); (try clear hk); (try clear hi)))
      go_meet
      case rel => exact ⟨_, (!t143), (by first | rfl | (simp; done) | (simp [*]; done)), H', ⟨by first | omega | exact Nat.le_refl _⟩, ⟨by (with_reducible repeat (first | refine blk_drewN ?_ _ | refine blk_drew ?_ | refine blk_alloc ?_ _)); exact BK140.out⟩, ⟨by (with_reducible repeat (first | refine blk_drewN ?_ _ | refine blk_drew ?_ | refine blk_alloc ?_ _)); exact BK141.out⟩, ⟨by repeat (first | (with_reducible first | exact HB.out | apply below_alloc | apply pw_below_drewN | apply below_drew1 | refine below_set ?_ GE140.out | refine below_set ?_ GE141.out) | exact HB.out)⟩⟩
    · replace c7 := Bool.eq_false_iff.mpr c7
      subst c7
      have H1 : (laws_FnSemverLeastCompares.j0 k true a0_0 a0_1 a0_2 a0_3 a0_4 a1_0 a1_1 a1_2 a1_3 a1_4) = some r := by rw [if_neg (show ¬ (false = true) by decide)] at H; exact H
      clear H
      have H := H1
      clear H1
      have H' := Aside0.mk H
      clear H
      have hnb14 := NB140_141.out
      have hnc14 := NB141_140.out
      have hcz15_0 : w5.cell? ⟨gb140, 0, none⟩ = some (.int .u64 a0_0) := (blk_cell BK140.out 0).trans rfl
      have hcz15_1 : w5.cell? ⟨gb140, 1, none⟩ = some (.int .u64 a0_1) := (blk_cell BK140.out 1).trans rfl
      have hcz15_2 : w5.cell? ⟨gb140, 2, none⟩ = some (.int .u64 a0_2) := (blk_cell BK140.out 2).trans rfl
      have hcz15_3 : w5.cell? ⟨gb140, 3, none⟩ = some (.string a0_3) := (blk_cell BK140.out 3).trans rfl
      have hcz15_4 : w5.cell? ⟨gb140, 4, none⟩ = some (.string a0_4) := (blk_cell BK140.out 4).trans rfl
      have hfz15_0 := blk_frozen BK140.out 0
      have hfz15_1 := blk_frozen BK140.out 1
      have hfz15_2 := blk_frozen BK140.out 2
      have hfz15_3 := blk_frozen BK140.out 3
      have hfz15_4 := blk_frozen BK140.out 4
      go_wp2_with (first | ((with_reducible refine gate_callee (f := 25) rfl ?_); refine goesL_ (some 6) rfl rfl Tryd.func25 (by kernel_rfl) rfl #[.agg #[.int .u64 a0_0, .int .u64 a0_1, .int .u64 a0_2, .string a0_3, .string a0_4]] rfl (by (try simp only [List.map_toArray, List.map_cons, List.map_nil]); first | done | rfl | (simp only [List.length_drop, List.length_take]; rfl)) ?_; (with_reducible refine (laws_zzFits14.calls a0_0 a0_1 a0_2 a0_3 a0_4 false _ A6.out).mono ?_); rintro e w16 ⟨rfl, hb⟩; refine ⟨_, rfl, ?_⟩; have n0_ := Aside0.mk (blk_below (g := gb140) (o := .cells #[.int .u64 a0_0, .int .u64 a0_1, .int .u64 a0_2, .string a0_3, .string a0_4] 29 (0, 0)) (by (with_reducible repeat (first | refine blk_drewN ?_ _ | refine blk_drew ?_ | refine blk_alloc ?_ _)); exact BK140.out) hb); have n1_ := Aside0.mk (blk_below (g := gb141) (o := .cells #[.int .u64 a1_0, .int .u64 a1_1, .int .u64 a1_2, .string a1_3, .string a1_4] 29 (0, 0)) (by (with_reducible repeat (first | refine blk_drewN ?_ _ | refine blk_drew ?_ | refine blk_alloc ?_ _)); exact BK141.out) hb); have n2_ := Aside0.mk (below_step (by repeat (first | (with_reducible first | exact HB.out | apply below_alloc | apply pw_below_drewN | apply below_drew1 | refine below_set ?_ GE140.out | refine below_set ?_ GE141.out) | exact HB.out)) hb); clear BK140; clear BK141; clear HB; have BK140 := n0_; have BK141 := n1_; have HB := n2_; clear n0_ n1_ n2_; (try clear hb); (try clear hb2); (try clear hk); (try clear hi)))
      go_meet
      case rel => exact ⟨_, (true), (by first | rfl | (simp; done) | (simp [*]; done)), H', ⟨by first | omega | exact Nat.le_refl _⟩, ⟨by (with_reducible repeat (first | refine blk_drewN ?_ _ | refine blk_drew ?_ | refine blk_alloc ?_ _)); exact BK140.out⟩, ⟨by (with_reducible repeat (first | refine blk_drewN ?_ _ | refine blk_drew ?_ | refine blk_alloc ?_ _)); exact BK141.out⟩, ⟨by repeat (first | (with_reducible first | exact HB.out | apply below_alloc | apply pw_below_drewN | apply below_drew1 | refine below_set ?_ GE140.out | refine below_set ?_ GE141.out) | exact HB.out)⟩⟩
  case rest =>
    clear HC3
    try clear c1
    try clear c2
    try clear p2
    try clear c7
    try clear c9
    try clear c10
    try clear c14
    try clear hcz10_0
    try clear hcz10_1
    try clear hcz10_2
    try clear hcz10_3
    try clear hcz10_4
    try clear hcz12_0
    try clear hcz12_1
    try clear hcz12_2
    try clear hcz12_3
    try clear hcz12_4
    try clear hcz15_0
    try clear hcz15_1
    try clear hcz15_2
    try clear hcz15_3
    try clear hcz15_4
    try clear hfz10_0
    try clear hfz10_1
    try clear hfz10_2
    try clear hfz10_3
    try clear hfz10_4
    try clear hfz12_0
    try clear hfz12_1
    try clear hfz12_2
    try clear hfz12_3
    try clear hfz12_4
    try clear hfz15_0
    try clear hfz15_1
    try clear hfz15_2
    try clear hfz15_3
    try clear hfz15_4
    obtain ⟨kq, x12_2, rfl, HA, HJ2, BK140, BK141, HB⟩ := hcut
    cases kq with
    | zero => exact absurd HA.out (by simp [laws_FnSemverLeastCompares.j0])
    | succ kj2 =>
      have H := HA.out
      clear HA
      simp only [laws_FnSemverLeastCompares.j0] at H
      by_cases c17 : x12_2 = true
      · subst c17
        have H1 : (some true) = some r := by rw [if_pos rfl] at H; exact H
        clear H
        have H := H1
        clear H1
        obtain rfl := Option.some.inj H
        go_wp2
        go_ret
        exact ⟨by first | rfl | (simp [errW_none, errW_some] <;> rfl) | (simp [*, errW_none, errW_some] <;> rfl), by repeat (first | (with_reducible first | exact HB.out | apply below_alloc | apply pw_below_drewN | apply below_drew1 | refine below_set ?_ GE140.out | refine below_set ?_ GE141.out) | exact HB.out)⟩
      · replace c17 := Bool.eq_false_iff.mpr c17
        subst c17
        have H1 : ((laws_svGood.f kj2 (([(⟨a0_0, a0_1, a0_2, a0_3, a0_4⟩ : S29), (⟨a1_0, a1_1, a1_2, a1_3, a1_4⟩ : S29)] : List (S29)))).bind fun t147 => (if t147 = true then ((Hand.stTerm.f 0 a1_0 a1_1 a1_2 a1_3 a1_4 3).bind fun bt148 => ((Hand.LeastHolds.f bt148.1 bt148.2.1 bt148.2.2.1 bt148.2.2.2.1 bt148.2.2.2.2.1 bt148.2.2.2.2.2 a0_0 a0_1 a0_2 a0_3 a0_4 true).bind fun t154 => ((Hand.VersionGreaterEqual.f a0_0 a0_1 a0_2 a0_3 a0_4 a1_0 a1_1 a1_2 a1_3 a1_4).bind fun t155 => (if (t154 == t155) = true then ((Hand.stTerm.f 0 a0_0 a0_1 a0_2 a0_3 a0_4 3).bind fun bt156 => ((Hand.LeastHolds.f bt156.1 bt156.2.1 bt156.2.2.1 bt156.2.2.2.1 bt156.2.2.2.2.1 bt156.2.2.2.2.2 a0_0 a0_1 a0_2 a0_3 a0_4 true).bind fun t162 => (some t162))) else (some false))))) else (some true))) = some r := by rw [if_neg (show ¬ (false = true) by decide)] at H; exact H
        clear H
        have H := H1
        clear H1
        obtain ⟨y144, hy144⟩ : ∃ y_ : List (S29), y_ = (([(⟨a0_0, a0_1, a0_2, a0_3, a0_4⟩ : S29), (⟨a1_0, a1_1, a1_2, a1_3, a1_4⟩ : S29)] : List (S29))) := ⟨_, rfl⟩
        replace H : ((laws_svGood.f kj2 y144).bind fun t147 => (if t147 = true then ((Hand.stTerm.f 0 a1_0 a1_1 a1_2 a1_3 a1_4 3).bind fun bt148 => ((Hand.LeastHolds.f bt148.1 bt148.2.1 bt148.2.2.1 bt148.2.2.2.1 bt148.2.2.2.2.1 bt148.2.2.2.2.2 a0_0 a0_1 a0_2 a0_3 a0_4 true).bind fun t154 => ((Hand.VersionGreaterEqual.f a0_0 a0_1 a0_2 a0_3 a0_4 a1_0 a1_1 a1_2 a1_3 a1_4).bind fun t155 => (if (t154 == t155) = true then ((Hand.stTerm.f 0 a0_0 a0_1 a0_2 a0_3 a0_4 3).bind fun bt156 => ((Hand.LeastHolds.f bt156.1 bt156.2.1 bt156.2.2.1 bt156.2.2.2.1 bt156.2.2.2.2.1 bt156.2.2.2.2.2 a0_0 a0_1 a0_2 a0_3 a0_4 true).bind fun t162 => (some t162))) else (some false))))) else (some true))) = some r := by first | (rw [hy144]; with_reducible exact H) | (have H2_ := (Option.bind_some _ _).symm.trans H; rw [hy144]; with_reducible exact H2_) | (have H2_ := (Option.bind_some _ _).symm.trans H; with_reducible exact H2_) | with_reducible exact H | (rw [hy144]; exact H) | exact H
        have Ny144 := Aside0.mk hy144
        clear hy144
        replace H := Option.bind_eq_some_iff.mp H
        obtain ⟨t147, A180, H⟩ := H
        replace H : (if t147 = true then ((Hand.stTerm.f 0 a1_0 a1_1 a1_2 a1_3 a1_4 3).bind fun bt148 => ((Hand.LeastHolds.f bt148.1 bt148.2.1 bt148.2.2.1 bt148.2.2.2.1 bt148.2.2.2.2.1 bt148.2.2.2.2.2 a0_0 a0_1 a0_2 a0_3 a0_4 true).bind fun t154 => ((Hand.VersionGreaterEqual.f a0_0 a0_1 a0_2 a0_3 a0_4 a1_0 a1_1 a1_2 a1_3 a1_4).bind fun t155 => (if (t154 == t155) = true then ((Hand.stTerm.f 0 a0_0 a0_1 a0_2 a0_3 a0_4 3).bind fun bt156 => ((Hand.LeastHolds.f bt156.1 bt156.2.1 bt156.2.2.1 bt156.2.2.2.1 bt156.2.2.2.2.1 bt156.2.2.2.2.2 a0_0 a0_1 a0_2 a0_3 a0_4 true).bind fun t162 => (some t162))) else (some false))))) else (some true)) = some r := H
        have A18 := Aside0.mk A180
        clear A180
        by_cases c19 : t147 = true
        · subst c19
          have H1 : ((Hand.stTerm.f 0 a1_0 a1_1 a1_2 a1_3 a1_4 3).bind fun bt148 => ((Hand.LeastHolds.f bt148.1 bt148.2.1 bt148.2.2.1 bt148.2.2.2.1 bt148.2.2.2.2.1 bt148.2.2.2.2.2 a0_0 a0_1 a0_2 a0_3 a0_4 true).bind fun t154 => ((Hand.VersionGreaterEqual.f a0_0 a0_1 a0_2 a0_3 a0_4 a1_0 a1_1 a1_2 a1_3 a1_4).bind fun t155 => (if (t154 == t155) = true then ((Hand.stTerm.f 0 a0_0 a0_1 a0_2 a0_3 a0_4 3).bind fun bt156 => ((Hand.LeastHolds.f bt156.1 bt156.2.1 bt156.2.2.1 bt156.2.2.2.1 bt156.2.2.2.2.1 bt156.2.2.2.2.2 a0_0 a0_1 a0_2 a0_3 a0_4 true).bind fun t162 => (some t162))) else (some false))))) = some r := by rw [if_pos rfl] at H; exact H
          clear H
          have H := H1
          clear H1
          replace H := Option.bind_eq_some_iff.mp H
          obtain ⟨⟨t148, t149, t150, t151, t152, t153⟩, A200, H⟩ := H
          replace H : ((Hand.LeastHolds.f t148 t149 t150 t151 t152 t153 a0_0 a0_1 a0_2 a0_3 a0_4 true).bind fun t154 => ((Hand.VersionGreaterEqual.f a0_0 a0_1 a0_2 a0_3 a0_4 a1_0 a1_1 a1_2 a1_3 a1_4).bind fun t155 => (if (t154 == t155) = true then ((Hand.stTerm.f 0 a0_0 a0_1 a0_2 a0_3 a0_4 3).bind fun bt156 => ((Hand.LeastHolds.f bt156.1 bt156.2.1 bt156.2.2.1 bt156.2.2.2.1 bt156.2.2.2.2.1 bt156.2.2.2.2.2 a0_0 a0_1 a0_2 a0_3 a0_4 true).bind fun t162 => (some t162))) else (some false)))) = some r := H
          have A20 := Aside0.mk A200
          clear A200
          replace H := Option.bind_eq_some_iff.mp H
          obtain ⟨t154, A210, H⟩ := H
          replace H : ((Hand.VersionGreaterEqual.f a0_0 a0_1 a0_2 a0_3 a0_4 a1_0 a1_1 a1_2 a1_3 a1_4).bind fun t155 => (if (t154 == t155) = true then ((Hand.stTerm.f 0 a0_0 a0_1 a0_2 a0_3 a0_4 3).bind fun bt156 => ((Hand.LeastHolds.f bt156.1 bt156.2.1 bt156.2.2.1 bt156.2.2.2.1 bt156.2.2.2.2.1 bt156.2.2.2.2.2 a0_0 a0_1 a0_2 a0_3 a0_4 true).bind fun t162 => (some t162))) else (some false))) = some r := H
          have A21 := Aside0.mk A210
          clear A210
          replace H := Option.bind_eq_some_iff.mp H
          obtain ⟨t155, A220, H⟩ := H
          replace H : (if (t154 == t155) = true then ((Hand.stTerm.f 0 a0_0 a0_1 a0_2 a0_3 a0_4 3).bind fun bt156 => ((Hand.LeastHolds.f bt156.1 bt156.2.1 bt156.2.2.1 bt156.2.2.2.1 bt156.2.2.2.2.1 bt156.2.2.2.2.2 a0_0 a0_1 a0_2 a0_3 a0_4 true).bind fun t162 => (some t162))) else (some false)) = some r := H
          have A22 := Aside0.mk A220
          clear A220
          by_cases c23 : (t154 == t155) = true
          · rw [if_pos c23] at H
            have c23b0 : (t154 == t155) = true := c23
            (try (have c23b1 : decide (t154 = t155) = true := by simpa using c23))
            (try (have c23b2 : (t154 == t155) = true := by simpa using c23))
            clear c23
            replace H := Option.bind_eq_some_iff.mp H
            obtain ⟨⟨t156, t157, t158, t159, t160, t161⟩, A240, H⟩ := H
            replace H : ((Hand.LeastHolds.f t156 t157 t158 t159 t160 t161 a0_0 a0_1 a0_2 a0_3 a0_4 true).bind fun t162 => (some t162)) = some r := H
            have A24 := Aside0.mk A240
            clear A240
            replace H := Option.bind_eq_some_iff.mp H
            obtain ⟨t162, A250, H⟩ := H
            replace H : (some t162) = some r := H
            have A25 := Aside0.mk A250
            clear A250
            obtain rfl := Option.some.inj H
            have hnb26 := NB140_141.out
            have hnc26 := NB141_140.out
            have hcz27_0 : wc.cell? ⟨gb140, 0, none⟩ = some (.int .u64 a0_0) := (blk_cell BK140.out 0).trans rfl
            have hcz27_1 : wc.cell? ⟨gb140, 1, none⟩ = some (.int .u64 a0_1) := (blk_cell BK140.out 1).trans rfl
            have hcz27_2 : wc.cell? ⟨gb140, 2, none⟩ = some (.int .u64 a0_2) := (blk_cell BK140.out 2).trans rfl
            have hcz27_3 : wc.cell? ⟨gb140, 3, none⟩ = some (.string a0_3) := (blk_cell BK140.out 3).trans rfl
            have hcz27_4 : wc.cell? ⟨gb140, 4, none⟩ = some (.string a0_4) := (blk_cell BK140.out 4).trans rfl
            have hfz27_0 := blk_frozen BK140.out 0
            have hfz27_1 := blk_frozen BK140.out 1
            have hfz27_2 := blk_frozen BK140.out 2
            have hfz27_3 := blk_frozen BK140.out 3
            have hfz27_4 := blk_frozen BK140.out 4
            have hcz28_0 : wc.cell? ⟨gb141, 0, none⟩ = some (.int .u64 a1_0) := (blk_cell BK141.out 0).trans rfl
            have hcz28_1 : wc.cell? ⟨gb141, 1, none⟩ = some (.int .u64 a1_1) := (blk_cell BK141.out 1).trans rfl
            have hcz28_2 : wc.cell? ⟨gb141, 2, none⟩ = some (.int .u64 a1_2) := (blk_cell BK141.out 2).trans rfl
            have hcz28_3 : wc.cell? ⟨gb141, 3, none⟩ = some (.string a1_3) := (blk_cell BK141.out 3).trans rfl
            have hcz28_4 : wc.cell? ⟨gb141, 4, none⟩ = some (.string a1_4) := (blk_cell BK141.out 4).trans rfl
            have hfz28_0 := blk_frozen BK141.out 0
            have hfz28_1 := blk_frozen BK141.out 1
            have hfz28_2 := blk_frozen BK141.out 2
            have hfz28_3 := blk_frozen BK141.out 3
            have hfz28_4 := blk_frozen BK141.out 4
            try go_wp2_with (first | ((with_reducible refine gate_dst (N := 15) rfl ?_); refine Kd.R_lit k29 _ 29 ?hg (N := 15) ?hd (xs := ([(⟨a0_0, a0_1, a0_2, a0_3, a0_4⟩ : S29), (⟨a1_0, a1_1, a1_2, a1_3, a1_4⟩ : S29)] : List (S29))) (inner := [.int .u64 a0_0, .int .u64 a0_1, .int .u64 a0_2, .string a0_3, .string a0_4, .int .u64 a1_0, .int .u64 a1_1, .int .u64 a1_2, .string a1_3, .string a1_4]) (ok := fun _ => True) (okp := fun _ => True) ?hr ?hp (fun _ hk => hk) trivial (Below.refl _ _) (Nat.le_refl _) (by simp) ?_; (case hd => rfl); (case hg => rfl); (case hr => first | (go_simp; done) | (go_simp; rfl)); (case hp => exact (Reps.c5 (show Kd.M k29 _ _ _ (⟨a0_0, a0_1, a0_2, a0_3, a0_4⟩ : S29) [.int .u64 a0_0, .int .u64 a0_1, .int .u64 a0_2, .string a0_3, .string a0_4] from (k29_mkM _ _ _ (⟨a0_0, a0_1, a0_2, a0_3, a0_4⟩ : S29) )) (Reps.c5 (show Kd.M k29 _ _ _ (⟨a1_0, a1_1, a1_2, a1_3, a1_4⟩ : S29) [.int .u64 a1_0, .int .u64 a1_1, .int .u64 a1_2, .string a1_3, .string a1_4] from (k29_mkM _ _ _ (⟨a1_0, a1_1, a1_2, a1_3, a1_4⟩ : S29) )) (Reps.none _ _)))); intro v145 w29 ho30 hb hg_ hnew_; clear hg_ hnew_; (first | rw [← Ny144.out] at ho30 | (simp only [Int.reduceToNat] at ho30; rw [← Ny144.out] at ho30)); have n0_ := Aside0.mk (Kd.R_lower (Kd.R_newB (Kd.R_newB ho30 (g := gb140) (o := .cells #[.int .u64 a0_0, .int .u64 a0_1, .int .u64 a0_2, .string a0_3, .string a0_4] 29 (0, 0)) (by (with_reducible repeat (first | refine blk_drewN ?_ _ | refine blk_drew ?_ | refine blk_alloc ?_ _)); exact BK140.out)) (g := gb141) (o := .cells #[.int .u64 a1_0, .int .u64 a1_1, .int .u64 a1_2, .string a1_3, .string a1_4] 29 (0, 0)) (by (with_reducible repeat (first | refine blk_drewN ?_ _ | refine blk_drew ?_ | refine blk_alloc ?_ _)); exact BK141.out)) (below_size (by repeat (first | (with_reducible first | exact HB.out | apply below_alloc | apply pw_below_drewN | apply below_drew1 | refine below_set ?_ GE140.out | refine below_set ?_ GE141.out) | exact HB.out)))); have n1_ := Aside0.mk (blk_below (g := gb140) (o := .cells #[.int .u64 a0_0, .int .u64 a0_1, .int .u64 a0_2, .string a0_3, .string a0_4] 29 (0, 0)) (by (with_reducible repeat (first | refine blk_drewN ?_ _ | refine blk_drew ?_ | refine blk_alloc ?_ _)); exact BK140.out) hb); have n2_ := Aside0.mk (blk_below (g := gb141) (o := .cells #[.int .u64 a1_0, .int .u64 a1_1, .int .u64 a1_2, .string a1_3, .string a1_4] 29 (0, 0)) (by (with_reducible repeat (first | refine blk_drewN ?_ _ | refine blk_drew ?_ | refine blk_alloc ?_ _)); exact BK141.out) hb); have n3_ := Aside0.mk (below_step (by repeat (first | (with_reducible first | exact HB.out | apply below_alloc | apply pw_below_drewN | apply below_drew1 | refine below_set ?_ GE140.out | refine below_set ?_ GE141.out) | exact HB.out)) hb); clear BK140; clear BK141; clear HB; have HO146 := n0_; have BK140 := n1_; have BK141 := n2_; have HB := n3_; clear n0_ n1_ n2_ n3_; clear hb ho30; obtain ⟨Ao31, co31, eo31⟩ := Kd.R_slice HO146.out; subst eo31) | ((with_reducible refine gate_callee (f := 26) rfl ?_); refine goesL_ (some 16) rfl rfl Tryd.func26 (by kernel_rfl) rfl #[.slice Ao31 y144.length co31] rfl (by (try simp only [List.map_toArray, List.map_cons, List.map_nil]); first | done | rfl | (simp only [List.length_drop, List.length_take]; rfl)) ?_; (with_reducible refine (laws_svGood.calls kj2 _ _ y144 true _ ?side1 ?side2 A18.out).mono ?_); (case side1 => repeat (first | exact (Kd.R_reads' HO146.out).2.2 | (with_reducible refine Kd.C_alloc ?_ _) | (with_reducible refine Kd.C_drewN ?_ _) | (with_reducible refine Kd.C_drew ?_))); (case side2 => exact (Kd.R_reads' HO146.out).2.1); rintro e w32 ⟨rfl, hb⟩; refine ⟨_, rfl, ?_⟩; have n0_ := Aside0.mk (Kd.R_below (by (with_reducible repeat (first | apply Kd.R_alloc | apply Kd.R_drewN | apply Kd.R_drew)); exact HO146.out) hb); have n1_ := Aside0.mk (blk_below (g := gb140) (o := .cells #[.int .u64 a0_0, .int .u64 a0_1, .int .u64 a0_2, .string a0_3, .string a0_4] 29 (0, 0)) (by (with_reducible repeat (first | refine blk_drewN ?_ _ | refine blk_drew ?_ | refine blk_alloc ?_ _)); exact BK140.out) hb); have n2_ := Aside0.mk (blk_below (g := gb141) (o := .cells #[.int .u64 a1_0, .int .u64 a1_1, .int .u64 a1_2, .string a1_3, .string a1_4] 29 (0, 0)) (by (with_reducible repeat (first | refine blk_drewN ?_ _ | refine blk_drew ?_ | refine blk_alloc ?_ _)); exact BK141.out) hb); have n3_ := Aside0.mk (below_step (by repeat (first | (with_reducible first | exact HB.out | apply below_alloc | apply pw_below_drewN | apply below_drew1 | refine below_set ?_ GE140.out | refine below_set ?_ GE141.out) | exact HB.out)) hb); clear HO146; clear BK140; clear BK141; clear HB; have HO146 := n0_; have BK140 := n1_; have BK141 := n2_; have HB := n3_; clear n0_ n1_ n2_ n3_; (try clear hb); (try clear hb2); (try clear hk); (try clear hi)))
            have n0_ := Aside0.mk (Kd.R_drew HO146.out)
            have n1_ := Aside0.mk (blk_drew BK140.out)
            have n2_ := Aside0.mk (blk_drew BK141.out)
            have n3_ := Aside0.mk (below_drew1 HB.out)
            clear HO146
            clear BK140
            clear BK141
            clear HB
            have HO146 := n0_
            have BK140 := n1_
            have BK141 := n2_
            have HB := n3_
            clear n0_ n1_ n2_ n3_
            refine start_ (n := 15) (S := fun w' => w'.cell? ⟨gb141, 0, none⟩ = some (.int .u64 a1_0) ∧ w'.cell? ⟨gb141, 1, none⟩ = some (.int .u64 a1_1) ∧ w'.cell? ⟨gb141, 2, none⟩ = some (.int .u64 a1_2) ∧ w'.cell? ⟨gb141, 3, none⟩ = some (.string a1_3) ∧ w'.cell? ⟨gb141, 4, none⟩ = some (.string a1_4) ∧ w'.cell? ⟨gb140, 0, none⟩ = some (.int .u64 a0_0) ∧ w'.cell? ⟨gb140, 1, none⟩ = some (.int .u64 a0_1) ∧ w'.cell? ⟨gb140, 2, none⟩ = some (.int .u64 a0_2) ∧ w'.cell? ⟨gb140, 3, none⟩ = some (.string a0_3) ∧ w'.cell? ⟨gb140, 4, none⟩ = some (.string a0_4)) (ds := []) #[false, false, false, false, false, false, false, false, false, false, false, false, false, false, false] (by kernel_rfl) rfl rfl ⟨(blk_cell BK141.out 0).trans rfl, (blk_cell BK141.out 1).trans rfl, (blk_cell BK141.out 2).trans rfl, (blk_cell BK141.out 3).trans rfl, (blk_cell BK141.out 4).trans rfl, (blk_cell BK140.out 0).trans rfl, (blk_cell BK140.out 1).trans rfl, (blk_cell BK140.out 2).trans rfl, (blk_cell BK140.out 3).trans rfl, (blk_cell BK140.out 4).trans rfl⟩ (fun hHeld => ?_); refine with_tabW laws_FnSemverLeastCompares.tab5 laws_FnSemverLeastCompares.bits5 (fun HT_ HW_ => ?_)
            generalize w32.drew = w33 at HO146 BK140 BK141 HB hHeld ⊢
            refine take_ (i := 0) (N := some 18) (v := ?_) (a' := ?_) #[true, false, false, false, false, false, false, false, false, false, false, false, false, false, false] rfl rfl (take_ofW HT_.out HW_.out (by kernel_rfl)) (fun _ _ _ h => h) (Or.inl ⟨by rfl, ?_⟩) hHeld ?_ ?_
            rotate_left
            · rintro w' ⟨s0, s1, s2, s3, s4, s5, s6, s7, s8, s9⟩
              go_simp
              with_reducible rfl
            rotate_left
            · simp only [Act.put, List.setIfInBounds_toArray, List.set_cons_zero, List.set_cons_succ, i64_w, i32_w]
              rfl
            refine take_ (i := 2) (N := some 20) (v := ?_) (a' := ?_) #[true, false, true, false, false, false, false, false, false, false, false, false, false, false, false] rfl rfl (take_ofW HT_.out HW_.out (by kernel_rfl)) (fun _ _ _ h => h) (Or.inl ⟨by rfl, ?_⟩) hHeld ?_ ?_
            rotate_left
            · rintro w' ⟨s0, s1, s2, s3, s4, s5, s6, s7, s8, s9⟩
              go_simp
              with_reducible rfl
            rotate_left
            · simp only [Act.put, List.setIfInBounds_toArray, List.set_cons_zero, List.set_cons_succ, i64_w, i32_w]
              rfl
            refine take_ (i := 4) (N := some 22) (v := ?_) (a' := ?_) #[true, false, true, false, true, false, false, false, false, false, false, false, false, false, false] rfl rfl (take_ofW HT_.out HW_.out (by kernel_rfl)) (fun _ _ _ h => h) (Or.inl ⟨by rfl, ?_⟩) hHeld ?_ ?_
            rotate_left
            · rintro w' ⟨s0, s1, s2, s3, s4, s5, s6, s7, s8, s9⟩
              go_simp
              with_reducible rfl
            rotate_left
            · simp only [Act.put, List.setIfInBounds_toArray, List.set_cons_zero, List.set_cons_succ, i64_w, i32_w]
              rfl
            refine take_ (i := 5) (N := some 23) (v := ?_) (a' := ?_) #[true, false, true, false, true, true, false, false, false, false, false, false, false, false, false] rfl rfl (take_ofW HT_.out HW_.out (by kernel_rfl)) (fun _ _ _ h => h) (Or.inl ⟨by rfl, ?_⟩) hHeld ?_ ?_
            rotate_left
            · rintro w' ⟨s0, s1, s2, s3, s4, s5, s6, s7, s8, s9⟩
              go_simp
              with_reducible rfl
            rotate_left
            · simp only [Act.put, List.setIfInBounds_toArray, List.set_cons_zero, List.set_cons_succ, i64_w, i32_w]
              rfl
            refine one_ (i := 1) (N := some 19) #[true, true, true, false, true, true, false, false, false, false, false, false, false, false, false] rfl rfl (one_of HT_.out (by kernel_rfl)) (by decide) (fun K hK => ?_)
            refine goes_ Tryd.func40 (by kernel_rfl) rfl #[.int .i64 0, .agg #[.int .u64 a1_0, .int .u64 a1_1, .int .u64 a1_2, .string a1_3, .string a1_4], .int .i64 3] (by rfl) rfl rfl (by (try simp only [List.map_toArray, List.map_cons, List.map_nil]); first | done | rfl | (simp only [List.length_drop, List.length_take]; rfl)) ?_
            with_reducible refine (Hand.stTerm.calls 0 a1_0 a1_1 a1_2 a1_3 a1_4 3 t148 t149 t150 t151 t152 t153 _ A20.out).mono ?_
            rintro e w34 ⟨rfl, hb⟩
            refine ⟨_, rfl, ?_⟩
            have n0_ := Aside0.mk (Kd.R_below (by (with_reducible repeat (first | apply Kd.R_alloc | apply Kd.R_drewN | apply Kd.R_drew)); exact HO146.out) hb)
            have n1_ := Aside0.mk (blk_below (g := gb140) (o := .cells #[.int .u64 a0_0, .int .u64 a0_1, .int .u64 a0_2, .string a0_3, .string a0_4] 29 (0, 0)) (by (with_reducible repeat (first | refine blk_drewN ?_ _ | refine blk_drew ?_ | refine blk_alloc ?_ _)); exact BK140.out) hb)
            have n2_ := Aside0.mk (blk_below (g := gb141) (o := .cells #[.int .u64 a1_0, .int .u64 a1_1, .int .u64 a1_2, .string a1_3, .string a1_4] 29 (0, 0)) (by (with_reducible repeat (first | refine blk_drewN ?_ _ | refine blk_drew ?_ | refine blk_alloc ?_ _)); exact BK141.out) hb)
            have n3_ := Aside0.mk (below_step (by repeat (first | (with_reducible first | exact HB.out | apply below_alloc | apply pw_below_drewN | apply below_drew1 | refine below_set ?_ GE140.out | refine below_set ?_ GE141.out) | exact HB.out)) hb)
            clear HO146
            clear BK140
            clear BK141
            clear HB
            have HO146 := n0_
            have BK140 := n1_
            have BK141 := n2_
            have HB := n3_
            clear n0_ n1_ n2_ n3_
            (try clear hb)
            (try clear hb2)
            (try clear hk)
            (try clear hi)
            refine hK.out _ _ ⟨(blk_cell BK141.out 0).trans rfl, (blk_cell BK141.out 1).trans rfl, (blk_cell BK141.out 2).trans rfl, (blk_cell BK141.out 3).trans rfl, (blk_cell BK141.out 4).trans rfl, (blk_cell BK140.out 0).trans rfl, (blk_cell BK140.out 1).trans rfl, (blk_cell BK140.out 2).trans rfl, (blk_cell BK140.out 3).trans rfl, (blk_cell BK140.out 4).trans rfl⟩ (fun hHeld => ?_)
            clear hK K
            refine norm_ (a' := ?_) ?_ ?_
            rotate_left
            · show Act.put _ (some 19) _ = _
              simp only [Act.put, List.setIfInBounds_toArray, List.set_cons_zero, List.set_cons_succ, i64_w, i32_w]
              rfl
            refine one_ (i := 3) (N := some 21) #[true, true, true, true, true, true, false, false, false, false, false, false, false, false, false] rfl rfl (one_of HT_.out (by kernel_rfl)) (by decide) (fun K hK => ?_)
            refine goes_ Tryd.func38 (by kernel_rfl) rfl #[.agg #[.int .i64 t148, .int .i64 t149, .int .u64 t150, .int .u64 t151, .int .u64 t152, .string t153], .agg #[.int .u64 a0_0, .int .u64 a0_1, .int .u64 a0_2, .string a0_3, .string a0_4], .bool true] (by rfl) rfl rfl (by (try simp only [List.map_toArray, List.map_cons, List.map_nil]); first | done | rfl | (simp only [List.length_drop, List.length_take]; rfl)) ?_
            with_reducible refine (Hand.LeastHolds.calls t148 t149 t150 t151 t152 t153 a0_0 a0_1 a0_2 a0_3 a0_4 true t154 _ ?gl1 A21.out).mono ?_
            case gl1 => (first | exact HG.out | exact Hand.Gl.below HG.out (by repeat (first | (with_reducible first | exact HB.out | apply below_alloc | apply pw_below_drewN | apply below_drew1) | exact HB.out)))
            rintro e w35 ⟨rfl, hb⟩
            refine ⟨_, rfl, ?_⟩
            have n0_ := Aside0.mk (Kd.R_below (by (with_reducible repeat (first | apply Kd.R_alloc | apply Kd.R_drewN | apply Kd.R_drew)); exact HO146.out) hb)
            have n1_ := Aside0.mk (blk_below (g := gb140) (o := .cells #[.int .u64 a0_0, .int .u64 a0_1, .int .u64 a0_2, .string a0_3, .string a0_4] 29 (0, 0)) (by (with_reducible repeat (first | refine blk_drewN ?_ _ | refine blk_drew ?_ | refine blk_alloc ?_ _)); exact BK140.out) hb)
            have n2_ := Aside0.mk (blk_below (g := gb141) (o := .cells #[.int .u64 a1_0, .int .u64 a1_1, .int .u64 a1_2, .string a1_3, .string a1_4] 29 (0, 0)) (by (with_reducible repeat (first | refine blk_drewN ?_ _ | refine blk_drew ?_ | refine blk_alloc ?_ _)); exact BK141.out) hb)
            have n3_ := Aside0.mk (below_step (by repeat (first | (with_reducible first | exact HB.out | apply below_alloc | apply pw_below_drewN | apply below_drew1 | refine below_set ?_ GE140.out | refine below_set ?_ GE141.out) | exact HB.out)) hb)
            clear HO146
            clear BK140
            clear BK141
            clear HB
            have HO146 := n0_
            have BK140 := n1_
            have BK141 := n2_
            have HB := n3_
            clear n0_ n1_ n2_ n3_
            (try clear hb)
            (try clear hb2)
            (try clear hk)
            (try clear hi)
            refine hK.out _ _ ⟨(blk_cell BK141.out 0).trans rfl, (blk_cell BK141.out 1).trans rfl, (blk_cell BK141.out 2).trans rfl, (blk_cell BK141.out 3).trans rfl, (blk_cell BK141.out 4).trans rfl, (blk_cell BK140.out 0).trans rfl, (blk_cell BK140.out 1).trans rfl, (blk_cell BK140.out 2).trans rfl, (blk_cell BK140.out 3).trans rfl, (blk_cell BK140.out 4).trans rfl⟩ (fun hHeld => ?_)
            clear hK K
            refine norm_ (a' := ?_) ?_ ?_
            rotate_left
            · show Act.put _ (some 21) _ = _
              simp only [Act.put, List.setIfInBounds_toArray, List.set_cons_zero, List.set_cons_succ, i64_w, i32_w]
              rfl
            refine one_ (i := 6) (N := some 24) #[true, true, true, true, true, true, true, false, false, false, false, false, false, false, false] rfl rfl (one_of HT_.out (by kernel_rfl)) (by decide) (fun K hK => ?_)
            refine goes_ Tryd.func41 (by kernel_rfl) rfl #[.agg #[.int .u64 a0_0, .int .u64 a0_1, .int .u64 a0_2, .string a0_3, .string a0_4], .agg #[.int .u64 a1_0, .int .u64 a1_1, .int .u64 a1_2, .string a1_3, .string a1_4]] (by rfl) rfl rfl (by (try simp only [List.map_toArray, List.map_cons, List.map_nil]); first | done | rfl | (simp only [List.length_drop, List.length_take]; rfl)) ?_
            with_reducible refine (Hand.VersionGreaterEqual.calls a0_0 a0_1 a0_2 a0_3 a0_4 a1_0 a1_1 a1_2 a1_3 a1_4 t155 _ ?gl2 A22.out).mono ?_
            case gl2 => (first | exact HG.out | exact Hand.Gl.below HG.out (by repeat (first | (with_reducible first | exact HB.out | apply below_alloc | apply pw_below_drewN | apply below_drew1) | exact HB.out)))
            rintro e w36 ⟨rfl, hb⟩
            refine ⟨_, rfl, ?_⟩
            have n0_ := Aside0.mk (Kd.R_below (by (with_reducible repeat (first | apply Kd.R_alloc | apply Kd.R_drewN | apply Kd.R_drew)); exact HO146.out) hb)
            have n1_ := Aside0.mk (blk_below (g := gb140) (o := .cells #[.int .u64 a0_0, .int .u64 a0_1, .int .u64 a0_2, .string a0_3, .string a0_4] 29 (0, 0)) (by (with_reducible repeat (first | refine blk_drewN ?_ _ | refine blk_drew ?_ | refine blk_alloc ?_ _)); exact BK140.out) hb)
            have n2_ := Aside0.mk (blk_below (g := gb141) (o := .cells #[.int .u64 a1_0, .int .u64 a1_1, .int .u64 a1_2, .string a1_3, .string a1_4] 29 (0, 0)) (by (with_reducible repeat (first | refine blk_drewN ?_ _ | refine blk_drew ?_ | refine blk_alloc ?_ _)); exact BK141.out) hb)
            have n3_ := Aside0.mk (below_step (by repeat (first | (with_reducible first | exact HB.out | apply below_alloc | apply pw_below_drewN | apply below_drew1 | refine below_set ?_ GE140.out | refine below_set ?_ GE141.out) | exact HB.out)) hb)
            clear HO146
            clear BK140
            clear BK141
            clear HB
            have HO146 := n0_
            have BK140 := n1_
            have BK141 := n2_
            have HB := n3_
            clear n0_ n1_ n2_ n3_
            (try clear hb)
            (try clear hb2)
            (try clear hk)
            (try clear hi)
            refine hK.out _ _ ⟨(blk_cell BK141.out 0).trans rfl, (blk_cell BK141.out 1).trans rfl, (blk_cell BK141.out 2).trans rfl, (blk_cell BK141.out 3).trans rfl, (blk_cell BK141.out 4).trans rfl, (blk_cell BK140.out 0).trans rfl, (blk_cell BK140.out 1).trans rfl, (blk_cell BK140.out 2).trans rfl, (blk_cell BK140.out 3).trans rfl, (blk_cell BK140.out 4).trans rfl⟩ (fun hHeld => ?_)
            clear hK K
            refine norm_ (a' := ?_) ?_ ?_
            rotate_left
            · show Act.put _ (some 24) _ = _
              simp only [Act.put, List.setIfInBounds_toArray, List.set_cons_zero, List.set_cons_succ, i64_w, i32_w]
              rfl
            refine pure_ (i := 7) (N := some 25) (v := ?_) (a' := ?_) #[true, true, true, true, true, true, true, true, false, false, false, false, false, false, false] rfl rfl (any_of HT_.out (by kernel_rfl)) (fun _ _ _ h => h) (Or.inl ⟨by rfl, ?_⟩) ?_ ?_
            rotate_left
            · intro w'
              go_simp
              with_reducible rfl
            rotate_left
            · simp only [Act.put, List.setIfInBounds_toArray, List.set_cons_zero, List.set_cons_succ, i64_w, i32_w]
              rfl
            refine pure_ (i := 8) (N := some 26) (v := ?_) (a' := ?_) #[true, true, true, true, true, true, true, true, true, false, false, false, false, false, false] rfl rfl (any_of HT_.out (by kernel_rfl)) (fun _ _ _ h => h) (Or.inl ⟨by rfl, ?_⟩) ?_ ?_
            rotate_left
            · intro w'
              go_simp
              with_reducible rfl
            rotate_left
            · simp only [Act.put, List.setIfInBounds_toArray, List.set_cons_zero, List.set_cons_succ, i64_w, i32_w]
              rfl
            refine take_ (i := 9) (N := some 27) (v := ?_) (a' := ?_) #[true, true, true, true, true, true, true, true, true, true, false, false, false, false, false] rfl rfl (take_ofW HT_.out HW_.out (by kernel_rfl)) (fun _ _ _ h => h) (Or.inl ⟨by rfl, ?_⟩) hHeld ?_ ?_
            rotate_left
            · rintro w' ⟨s0, s1, s2, s3, s4, s5, s6, s7, s8, s9⟩
              go_simp
              with_reducible rfl
            rotate_left
            · simp only [Act.put, List.setIfInBounds_toArray, List.set_cons_zero, List.set_cons_succ, i64_w, i32_w]
              rfl
            refine take_ (i := 11) (N := some 29) (v := ?_) (a' := ?_) #[true, true, true, true, true, true, true, true, true, true, false, true, false, false, false] rfl rfl (take_ofW HT_.out HW_.out (by kernel_rfl)) (fun _ _ _ h => h) (Or.inl ⟨by rfl, ?_⟩) hHeld ?_ ?_
            rotate_left
            · rintro w' ⟨s0, s1, s2, s3, s4, s5, s6, s7, s8, s9⟩
              go_simp
              with_reducible rfl
            rotate_left
            · simp only [Act.put, List.setIfInBounds_toArray, List.set_cons_zero, List.set_cons_succ, i64_w, i32_w]
              rfl
            refine one_ (i := 10) (N := some 28) #[true, true, true, true, true, true, true, true, true, true, true, true, false, false, false] rfl rfl (one_of HT_.out (by kernel_rfl)) (by decide) (fun K hK => ?_)
            refine goes_ Tryd.func40 (by kernel_rfl) rfl #[.int .i64 0, .agg #[.int .u64 a0_0, .int .u64 a0_1, .int .u64 a0_2, .string a0_3, .string a0_4], .int .i64 3] (by rfl) rfl rfl (by (try simp only [List.map_toArray, List.map_cons, List.map_nil]); first | done | rfl | (simp only [List.length_drop, List.length_take]; rfl)) ?_
            with_reducible refine (Hand.stTerm.calls 0 a0_0 a0_1 a0_2 a0_3 a0_4 3 t156 t157 t158 t159 t160 t161 _ A24.out).mono ?_
            rintro e w37 ⟨rfl, hb⟩
            refine ⟨_, rfl, ?_⟩
            have n0_ := Aside0.mk (Kd.R_below (by (with_reducible repeat (first | apply Kd.R_alloc | apply Kd.R_drewN | apply Kd.R_drew)); exact HO146.out) hb)
            have n1_ := Aside0.mk (blk_below (g := gb140) (o := .cells #[.int .u64 a0_0, .int .u64 a0_1, .int .u64 a0_2, .string a0_3, .string a0_4] 29 (0, 0)) (by (with_reducible repeat (first | refine blk_drewN ?_ _ | refine blk_drew ?_ | refine blk_alloc ?_ _)); exact BK140.out) hb)
            have n2_ := Aside0.mk (blk_below (g := gb141) (o := .cells #[.int .u64 a1_0, .int .u64 a1_1, .int .u64 a1_2, .string a1_3, .string a1_4] 29 (0, 0)) (by (with_reducible repeat (first | refine blk_drewN ?_ _ | refine blk_drew ?_ | refine blk_alloc ?_ _)); exact BK141.out) hb)
            have n3_ := Aside0.mk (below_step (by repeat (first | (with_reducible first | exact HB.out | apply below_alloc | apply pw_below_drewN | apply below_drew1 | refine below_set ?_ GE140.out | refine below_set ?_ GE141.out) | exact HB.out)) hb)
            clear HO146
            clear BK140
            clear BK141
            clear HB
            have HO146 := n0_
            have BK140 := n1_
            have BK141 := n2_
            have HB := n3_
            clear n0_ n1_ n2_ n3_
            (try clear hb)
            (try clear hb2)
            (try clear hk)
            (try clear hi)
            refine hK.out _ _ ⟨(blk_cell BK141.out 0).trans rfl, (blk_cell BK141.out 1).trans rfl, (blk_cell BK141.out 2).trans rfl, (blk_cell BK141.out 3).trans rfl, (blk_cell BK141.out 4).trans rfl, (blk_cell BK140.out 0).trans rfl, (blk_cell BK140.out 1).trans rfl, (blk_cell BK140.out 2).trans rfl, (blk_cell BK140.out 3).trans rfl, (blk_cell BK140.out 4).trans rfl⟩ (fun hHeld => ?_)
            clear hK K
            refine norm_ (a' := ?_) ?_ ?_
            rotate_left
            · show Act.put _ (some 28) _ = _
              simp only [Act.put, List.setIfInBounds_toArray, List.set_cons_zero, List.set_cons_succ, i64_w, i32_w]
              rfl
            refine one_ (i := 12) (N := some 30) #[true, true, true, true, true, true, true, true, true, true, true, true, true, false, false] rfl rfl (one_of HT_.out (by kernel_rfl)) (by decide) (fun K hK => ?_)
            refine goes_ Tryd.func38 (by kernel_rfl) rfl #[.agg #[.int .i64 t156, .int .i64 t157, .int .u64 t158, .int .u64 t159, .int .u64 t160, .string t161], .agg #[.int .u64 a0_0, .int .u64 a0_1, .int .u64 a0_2, .string a0_3, .string a0_4], .bool true] (by rfl) rfl rfl (by (try simp only [List.map_toArray, List.map_cons, List.map_nil]); first | done | rfl | (simp only [List.length_drop, List.length_take]; rfl)) ?_
            with_reducible refine (Hand.LeastHolds.calls t156 t157 t158 t159 t160 t161 a0_0 a0_1 a0_2 a0_3 a0_4 true t162 _ ?gl3 A25.out).mono ?_
            case gl3 => (first | exact HG.out | exact Hand.Gl.below HG.out (by repeat (first | (with_reducible first | exact HB.out | apply below_alloc | apply pw_below_drewN | apply below_drew1) | exact HB.out)))
            rintro e w38 ⟨rfl, hb⟩
            refine ⟨_, rfl, ?_⟩
            have n0_ := Aside0.mk (Kd.R_below (by (with_reducible repeat (first | apply Kd.R_alloc | apply Kd.R_drewN | apply Kd.R_drew)); exact HO146.out) hb)
            have n1_ := Aside0.mk (blk_below (g := gb140) (o := .cells #[.int .u64 a0_0, .int .u64 a0_1, .int .u64 a0_2, .string a0_3, .string a0_4] 29 (0, 0)) (by (with_reducible repeat (first | refine blk_drewN ?_ _ | refine blk_drew ?_ | refine blk_alloc ?_ _)); exact BK140.out) hb)
            have n2_ := Aside0.mk (blk_below (g := gb141) (o := .cells #[.int .u64 a1_0, .int .u64 a1_1, .int .u64 a1_2, .string a1_3, .string a1_4] 29 (0, 0)) (by (with_reducible repeat (first | refine blk_drewN ?_ _ | refine blk_drew ?_ | refine blk_alloc ?_ _)); exact BK141.out) hb)
            have n3_ := Aside0.mk (below_step (by repeat (first | (with_reducible first | exact HB.out | apply below_alloc | apply pw_below_drewN | apply below_drew1 | refine below_set ?_ GE140.out | refine below_set ?_ GE141.out) | exact HB.out)) hb)
            clear HO146
            clear BK140
            clear BK141
            clear HB
            have HO146 := n0_
            have BK140 := n1_
            have BK141 := n2_
            have HB := n3_
            clear n0_ n1_ n2_ n3_
            (try clear hb)
            (try clear hb2)
            (try clear hk)
            (try clear hi)
            refine hK.out _ _ ⟨(blk_cell BK141.out 0).trans rfl, (blk_cell BK141.out 1).trans rfl, (blk_cell BK141.out 2).trans rfl, (blk_cell BK141.out 3).trans rfl, (blk_cell BK141.out 4).trans rfl, (blk_cell BK140.out 0).trans rfl, (blk_cell BK140.out 1).trans rfl, (blk_cell BK140.out 2).trans rfl, (blk_cell BK140.out 3).trans rfl, (blk_cell BK140.out 4).trans rfl⟩ (fun hHeld => ?_)
            clear hK K
            refine norm_ (a' := ?_) ?_ ?_
            rotate_left
            · show Act.put _ (some 30) _ = _
              simp only [Act.put, List.setIfInBounds_toArray, List.set_cons_zero, List.set_cons_succ, i64_w, i32_w]
              rfl
            refine pure_ (i := 13) (N := some 31) (v := ?_) (a' := ?_) #[true, true, true, true, true, true, true, true, true, true, true, true, true, true, false] rfl rfl (any_of HT_.out (by kernel_rfl)) (fun _ _ _ h => h) (Or.inl ⟨by rfl, ?_⟩) ?_ ?_
            rotate_left
            · intro w'
              go_simp
              with_reducible rfl
            rotate_left
            · simp only [Act.put, List.setIfInBounds_toArray, List.set_cons_zero, List.set_cons_succ, i64_w, i32_w]
              rfl
            refine pure_ (i := 14) (N := some 4) (v := ?_) (a' := ?_) #[true, true, true, true, true, true, true, true, true, true, true, true, true, true, true] rfl rfl (any_of HT_.out (by kernel_rfl)) (fun _ _ _ h => h) (Or.inl ⟨by rfl, ?_⟩) ?_ ?_
            rotate_left
            · intro w'
              go_simp
              with_reducible rfl
            rotate_left
            · simp only [Act.put, List.setIfInBounds_toArray, List.set_cons_zero, List.set_cons_succ, i64_w, i32_w]
              rfl
            refine done_ (done_of HT_.out (by kernel_rfl)) ?_
            try go_wp2
            go_ret
            exact ⟨by first | rfl | (simp [errW_none, errW_some] <;> rfl) | (simp [*, errW_none, errW_some] <;> rfl), by repeat (first | (with_reducible first | exact HB.out | apply below_alloc | apply pw_below_drewN | apply below_drew1 | refine below_set ?_ GE140.out | refine below_set ?_ GE141.out) | exact HB.out)⟩
          · rw [if_neg c23] at H
            have c23b0 : (t154 == t155) = false := by simpa using c23
            (try (have c23b1 : decide (t154 = t155) = false := by simpa using c23))
            (try (have c23b2 : (t154 == t155) = false := by simpa using c23))
            (try (have c23b3 : ¬ (t154 = t155) := by simpa using c23))
            clear c23
            obtain rfl := Option.some.inj H
            have hnb39 := NB140_141.out
            have hnc39 := NB141_140.out
            have hcz40_0 : wc.cell? ⟨gb140, 0, none⟩ = some (.int .u64 a0_0) := (blk_cell BK140.out 0).trans rfl
            have hcz40_1 : wc.cell? ⟨gb140, 1, none⟩ = some (.int .u64 a0_1) := (blk_cell BK140.out 1).trans rfl
            have hcz40_2 : wc.cell? ⟨gb140, 2, none⟩ = some (.int .u64 a0_2) := (blk_cell BK140.out 2).trans rfl
            have hcz40_3 : wc.cell? ⟨gb140, 3, none⟩ = some (.string a0_3) := (blk_cell BK140.out 3).trans rfl
            have hcz40_4 : wc.cell? ⟨gb140, 4, none⟩ = some (.string a0_4) := (blk_cell BK140.out 4).trans rfl
            have hfz40_0 := blk_frozen BK140.out 0
            have hfz40_1 := blk_frozen BK140.out 1
            have hfz40_2 := blk_frozen BK140.out 2
            have hfz40_3 := blk_frozen BK140.out 3
            have hfz40_4 := blk_frozen BK140.out 4
            have hcz41_0 : wc.cell? ⟨gb141, 0, none⟩ = some (.int .u64 a1_0) := (blk_cell BK141.out 0).trans rfl
            have hcz41_1 : wc.cell? ⟨gb141, 1, none⟩ = some (.int .u64 a1_1) := (blk_cell BK141.out 1).trans rfl
            have hcz41_2 : wc.cell? ⟨gb141, 2, none⟩ = some (.int .u64 a1_2) := (blk_cell BK141.out 2).trans rfl
            have hcz41_3 : wc.cell? ⟨gb141, 3, none⟩ = some (.string a1_3) := (blk_cell BK141.out 3).trans rfl
            have hcz41_4 : wc.cell? ⟨gb141, 4, none⟩ = some (.string a1_4) := (blk_cell BK141.out 4).trans rfl
            have hfz41_0 := blk_frozen BK141.out 0
            have hfz41_1 := blk_frozen BK141.out 1
            have hfz41_2 := blk_frozen BK141.out 2
            have hfz41_3 := blk_frozen BK141.out 3
            have hfz41_4 := blk_frozen BK141.out 4
            try go_wp2_with (first | ((with_reducible refine gate_dst (N := 15) rfl ?_); refine Kd.R_lit k29 _ 29 ?hg (N := 15) ?hd (xs := ([(⟨a0_0, a0_1, a0_2, a0_3, a0_4⟩ : S29), (⟨a1_0, a1_1, a1_2, a1_3, a1_4⟩ : S29)] : List (S29))) (inner := [.int .u64 a0_0, .int .u64 a0_1, .int .u64 a0_2, .string a0_3, .string a0_4, .int .u64 a1_0, .int .u64 a1_1, .int .u64 a1_2, .string a1_3, .string a1_4]) (ok := fun _ => True) (okp := fun _ => True) ?hr ?hp (fun _ hk => hk) trivial (Below.refl _ _) (Nat.le_refl _) (by simp) ?_; (case hd => rfl); (case hg => rfl); (case hr => first | (go_simp; done) | (go_simp; rfl)); (case hp => exact (Reps.c5 (show Kd.M k29 _ _ _ (⟨a0_0, a0_1, a0_2, a0_3, a0_4⟩ : S29) [.int .u64 a0_0, .int .u64 a0_1, .int .u64 a0_2, .string a0_3, .string a0_4] from (k29_mkM _ _ _ (⟨a0_0, a0_1, a0_2, a0_3, a0_4⟩ : S29) )) (Reps.c5 (show Kd.M k29 _ _ _ (⟨a1_0, a1_1, a1_2, a1_3, a1_4⟩ : S29) [.int .u64 a1_0, .int .u64 a1_1, .int .u64 a1_2, .string a1_3, .string a1_4] from (k29_mkM _ _ _ (⟨a1_0, a1_1, a1_2, a1_3, a1_4⟩ : S29) )) (Reps.none _ _)))); intro v145 w42 ho43 hb hg_ hnew_; clear hg_ hnew_; (first | rw [← Ny144.out] at ho43 | (simp only [Int.reduceToNat] at ho43; rw [← Ny144.out] at ho43)); have n0_ := Aside0.mk (Kd.R_lower (Kd.R_newB (Kd.R_newB ho43 (g := gb140) (o := .cells #[.int .u64 a0_0, .int .u64 a0_1, .int .u64 a0_2, .string a0_3, .string a0_4] 29 (0, 0)) (by (with_reducible repeat (first | refine blk_drewN ?_ _ | refine blk_drew ?_ | refine blk_alloc ?_ _)); exact BK140.out)) (g := gb141) (o := .cells #[.int .u64 a1_0, .int .u64 a1_1, .int .u64 a1_2, .string a1_3, .string a1_4] 29 (0, 0)) (by (with_reducible repeat (first | refine blk_drewN ?_ _ | refine blk_drew ?_ | refine blk_alloc ?_ _)); exact BK141.out)) (below_size (by repeat (first | (with_reducible first | exact HB.out | apply below_alloc | apply pw_below_drewN | apply below_drew1 | refine below_set ?_ GE140.out | refine below_set ?_ GE141.out) | exact HB.out)))); have n1_ := Aside0.mk (blk_below (g := gb140) (o := .cells #[.int .u64 a0_0, .int .u64 a0_1, .int .u64 a0_2, .string a0_3, .string a0_4] 29 (0, 0)) (by (with_reducible repeat (first | refine blk_drewN ?_ _ | refine blk_drew ?_ | refine blk_alloc ?_ _)); exact BK140.out) hb); have n2_ := Aside0.mk (blk_below (g := gb141) (o := .cells #[.int .u64 a1_0, .int .u64 a1_1, .int .u64 a1_2, .string a1_3, .string a1_4] 29 (0, 0)) (by (with_reducible repeat (first | refine blk_drewN ?_ _ | refine blk_drew ?_ | refine blk_alloc ?_ _)); exact BK141.out) hb); have n3_ := Aside0.mk (below_step (by repeat (first | (with_reducible first | exact HB.out | apply below_alloc | apply pw_below_drewN | apply below_drew1 | refine below_set ?_ GE140.out | refine below_set ?_ GE141.out) | exact HB.out)) hb); clear BK140; clear BK141; clear HB; have HO146 := n0_; have BK140 := n1_; have BK141 := n2_; have HB := n3_; clear n0_ n1_ n2_ n3_; clear hb ho43; obtain ⟨Ao44, co44, eo44⟩ := Kd.R_slice HO146.out; subst eo44) | ((with_reducible refine gate_callee (f := 26) rfl ?_); refine goesL_ (some 16) rfl rfl Tryd.func26 (by kernel_rfl) rfl #[.slice Ao44 y144.length co44] rfl (by (try simp only [List.map_toArray, List.map_cons, List.map_nil]); first | done | rfl | (simp only [List.length_drop, List.length_take]; rfl)) ?_; (with_reducible refine (laws_svGood.calls kj2 _ _ y144 true _ ?side1 ?side2 A18.out).mono ?_); (case side1 => repeat (first | exact (Kd.R_reads' HO146.out).2.2 | (with_reducible refine Kd.C_alloc ?_ _) | (with_reducible refine Kd.C_drewN ?_ _) | (with_reducible refine Kd.C_drew ?_))); (case side2 => exact (Kd.R_reads' HO146.out).2.1); rintro e w45 ⟨rfl, hb⟩; refine ⟨_, rfl, ?_⟩; have n0_ := Aside0.mk (Kd.R_below (by (with_reducible repeat (first | apply Kd.R_alloc | apply Kd.R_drewN | apply Kd.R_drew)); exact HO146.out) hb); have n1_ := Aside0.mk (blk_below (g := gb140) (o := .cells #[.int .u64 a0_0, .int .u64 a0_1, .int .u64 a0_2, .string a0_3, .string a0_4] 29 (0, 0)) (by (with_reducible repeat (first | refine blk_drewN ?_ _ | refine blk_drew ?_ | refine blk_alloc ?_ _)); exact BK140.out) hb); have n2_ := Aside0.mk (blk_below (g := gb141) (o := .cells #[.int .u64 a1_0, .int .u64 a1_1, .int .u64 a1_2, .string a1_3, .string a1_4] 29 (0, 0)) (by (with_reducible repeat (first | refine blk_drewN ?_ _ | refine blk_drew ?_ | refine blk_alloc ?_ _)); exact BK141.out) hb); have n3_ := Aside0.mk (below_step (by repeat (first | (with_reducible first | exact HB.out | apply below_alloc | apply pw_below_drewN | apply below_drew1 | refine below_set ?_ GE140.out | refine below_set ?_ GE141.out) | exact HB.out)) hb); clear HO146; clear BK140; clear BK141; clear HB; have HO146 := n0_; have BK140 := n1_; have BK141 := n2_; have HB := n3_; clear n0_ n1_ n2_ n3_; (try clear hb); (try clear hb2); (try clear hk); (try clear hi)))
            have n0_ := Aside0.mk (Kd.R_drew HO146.out)
            have n1_ := Aside0.mk (blk_drew BK140.out)
            have n2_ := Aside0.mk (blk_drew BK141.out)
            have n3_ := Aside0.mk (below_drew1 HB.out)
            clear HO146
            clear BK140
            clear BK141
            clear HB
            have HO146 := n0_
            have BK140 := n1_
            have BK141 := n2_
            have HB := n3_
            clear n0_ n1_ n2_ n3_
            refine start_ (n := 15) (S := fun w' => w'.cell? ⟨gb141, 0, none⟩ = some (.int .u64 a1_0) ∧ w'.cell? ⟨gb141, 1, none⟩ = some (.int .u64 a1_1) ∧ w'.cell? ⟨gb141, 2, none⟩ = some (.int .u64 a1_2) ∧ w'.cell? ⟨gb141, 3, none⟩ = some (.string a1_3) ∧ w'.cell? ⟨gb141, 4, none⟩ = some (.string a1_4) ∧ w'.cell? ⟨gb140, 0, none⟩ = some (.int .u64 a0_0) ∧ w'.cell? ⟨gb140, 1, none⟩ = some (.int .u64 a0_1) ∧ w'.cell? ⟨gb140, 2, none⟩ = some (.int .u64 a0_2) ∧ w'.cell? ⟨gb140, 3, none⟩ = some (.string a0_3) ∧ w'.cell? ⟨gb140, 4, none⟩ = some (.string a0_4)) (ds := []) #[false, false, false, false, false, false, false, false, false, false, false, false, false, false, false] (by kernel_rfl) rfl rfl ⟨(blk_cell BK141.out 0).trans rfl, (blk_cell BK141.out 1).trans rfl, (blk_cell BK141.out 2).trans rfl, (blk_cell BK141.out 3).trans rfl, (blk_cell BK141.out 4).trans rfl, (blk_cell BK140.out 0).trans rfl, (blk_cell BK140.out 1).trans rfl, (blk_cell BK140.out 2).trans rfl, (blk_cell BK140.out 3).trans rfl, (blk_cell BK140.out 4).trans rfl⟩ (fun hHeld => ?_); refine with_tabW laws_FnSemverLeastCompares.tab5 laws_FnSemverLeastCompares.bits5 (fun HT_ HW_ => ?_)
            generalize w45.drew = w46 at HO146 BK140 BK141 HB hHeld ⊢
            refine take_ (i := 0) (N := some 18) (v := ?_) (a' := ?_) #[true, false, false, false, false, false, false, false, false, false, false, false, false, false, false] rfl rfl (take_ofW HT_.out HW_.out (by kernel_rfl)) (fun _ _ _ h => h) (Or.inl ⟨by rfl, ?_⟩) hHeld ?_ ?_
            rotate_left
            · rintro w' ⟨s0, s1, s2, s3, s4, s5, s6, s7, s8, s9⟩
              go_simp
              with_reducible rfl
            rotate_left
            · simp only [Act.put, List.setIfInBounds_toArray, List.set_cons_zero, List.set_cons_succ, i64_w, i32_w]
              rfl
            refine take_ (i := 2) (N := some 20) (v := ?_) (a' := ?_) #[true, false, true, false, false, false, false, false, false, false, false, false, false, false, false] rfl rfl (take_ofW HT_.out HW_.out (by kernel_rfl)) (fun _ _ _ h => h) (Or.inl ⟨by rfl, ?_⟩) hHeld ?_ ?_
            rotate_left
            · rintro w' ⟨s0, s1, s2, s3, s4, s5, s6, s7, s8, s9⟩
              go_simp
              with_reducible rfl
            rotate_left
            · simp only [Act.put, List.setIfInBounds_toArray, List.set_cons_zero, List.set_cons_succ, i64_w, i32_w]
              rfl
            refine take_ (i := 4) (N := some 22) (v := ?_) (a' := ?_) #[true, false, true, false, true, false, false, false, false, false, false, false, false, false, false] rfl rfl (take_ofW HT_.out HW_.out (by kernel_rfl)) (fun _ _ _ h => h) (Or.inl ⟨by rfl, ?_⟩) hHeld ?_ ?_
            rotate_left
            · rintro w' ⟨s0, s1, s2, s3, s4, s5, s6, s7, s8, s9⟩
              go_simp
              with_reducible rfl
            rotate_left
            · simp only [Act.put, List.setIfInBounds_toArray, List.set_cons_zero, List.set_cons_succ, i64_w, i32_w]
              rfl
            refine take_ (i := 5) (N := some 23) (v := ?_) (a' := ?_) #[true, false, true, false, true, true, false, false, false, false, false, false, false, false, false] rfl rfl (take_ofW HT_.out HW_.out (by kernel_rfl)) (fun _ _ _ h => h) (Or.inl ⟨by rfl, ?_⟩) hHeld ?_ ?_
            rotate_left
            · rintro w' ⟨s0, s1, s2, s3, s4, s5, s6, s7, s8, s9⟩
              go_simp
              with_reducible rfl
            rotate_left
            · simp only [Act.put, List.setIfInBounds_toArray, List.set_cons_zero, List.set_cons_succ, i64_w, i32_w]
              rfl
            refine one_ (i := 1) (N := some 19) #[true, true, true, false, true, true, false, false, false, false, false, false, false, false, false] rfl rfl (one_of HT_.out (by kernel_rfl)) (by decide) (fun K hK => ?_)
            refine goes_ Tryd.func40 (by kernel_rfl) rfl #[.int .i64 0, .agg #[.int .u64 a1_0, .int .u64 a1_1, .int .u64 a1_2, .string a1_3, .string a1_4], .int .i64 3] (by rfl) rfl rfl (by (try simp only [List.map_toArray, List.map_cons, List.map_nil]); first | done | rfl | (simp only [List.length_drop, List.length_take]; rfl)) ?_
            with_reducible refine (Hand.stTerm.calls 0 a1_0 a1_1 a1_2 a1_3 a1_4 3 t148 t149 t150 t151 t152 t153 _ A20.out).mono ?_
            rintro e w47 ⟨rfl, hb⟩
            refine ⟨_, rfl, ?_⟩
            have n0_ := Aside0.mk (Kd.R_below (by (with_reducible repeat (first | apply Kd.R_alloc | apply Kd.R_drewN | apply Kd.R_drew)); exact HO146.out) hb)
            have n1_ := Aside0.mk (blk_below (g := gb140) (o := .cells #[.int .u64 a0_0, .int .u64 a0_1, .int .u64 a0_2, .string a0_3, .string a0_4] 29 (0, 0)) (by (with_reducible repeat (first | refine blk_drewN ?_ _ | refine blk_drew ?_ | refine blk_alloc ?_ _)); exact BK140.out) hb)
            have n2_ := Aside0.mk (blk_below (g := gb141) (o := .cells #[.int .u64 a1_0, .int .u64 a1_1, .int .u64 a1_2, .string a1_3, .string a1_4] 29 (0, 0)) (by (with_reducible repeat (first | refine blk_drewN ?_ _ | refine blk_drew ?_ | refine blk_alloc ?_ _)); exact BK141.out) hb)
            have n3_ := Aside0.mk (below_step (by repeat (first | (with_reducible first | exact HB.out | apply below_alloc | apply pw_below_drewN | apply below_drew1 | refine below_set ?_ GE140.out | refine below_set ?_ GE141.out) | exact HB.out)) hb)
            clear HO146
            clear BK140
            clear BK141
            clear HB
            have HO146 := n0_
            have BK140 := n1_
            have BK141 := n2_
            have HB := n3_
            clear n0_ n1_ n2_ n3_
            (try clear hb)
            (try clear hb2)
            (try clear hk)
            (try clear hi)
            refine hK.out _ _ ⟨(blk_cell BK141.out 0).trans rfl, (blk_cell BK141.out 1).trans rfl, (blk_cell BK141.out 2).trans rfl, (blk_cell BK141.out 3).trans rfl, (blk_cell BK141.out 4).trans rfl, (blk_cell BK140.out 0).trans rfl, (blk_cell BK140.out 1).trans rfl, (blk_cell BK140.out 2).trans rfl, (blk_cell BK140.out 3).trans rfl, (blk_cell BK140.out 4).trans rfl⟩ (fun hHeld => ?_)
            clear hK K
            refine norm_ (a' := ?_) ?_ ?_
            rotate_left
            · show Act.put _ (some 19) _ = _
              simp only [Act.put, List.setIfInBounds_toArray, List.set_cons_zero, List.set_cons_succ, i64_w, i32_w]
              rfl
            refine one_ (i := 3) (N := some 21) #[true, true, true, true, true, true, false, false, false, false, false, false, false, false, false] rfl rfl (one_of HT_.out (by kernel_rfl)) (by decide) (fun K hK => ?_)
            refine goes_ Tryd.func38 (by kernel_rfl) rfl #[.agg #[.int .i64 t148, .int .i64 t149, .int .u64 t150, .int .u64 t151, .int .u64 t152, .string t153], .agg #[.int .u64 a0_0, .int .u64 a0_1, .int .u64 a0_2, .string a0_3, .string a0_4], .bool true] (by rfl) rfl rfl (by (try simp only [List.map_toArray, List.map_cons, List.map_nil]); first | done | rfl | (simp only [List.length_drop, List.length_take]; rfl)) ?_
            with_reducible refine (Hand.LeastHolds.calls t148 t149 t150 t151 t152 t153 a0_0 a0_1 a0_2 a0_3 a0_4 true t154 _ ?gl4 A21.out).mono ?_
            case gl4 => (first | exact HG.out | exact Hand.Gl.below HG.out (by repeat (first | (with_reducible first | exact HB.out | apply below_alloc | apply pw_below_drewN | apply below_drew1) | exact HB.out)))
            rintro e w48 ⟨rfl, hb⟩
            refine ⟨_, rfl, ?_⟩
            have n0_ := Aside0.mk (Kd.R_below (by (with_reducible repeat (first | apply Kd.R_alloc | apply Kd.R_drewN | apply Kd.R_drew)); exact HO146.out) hb)
            have n1_ := Aside0.mk (blk_below (g := gb140) (o := .cells #[.int .u64 a0_0, .int .u64 a0_1, .int .u64 a0_2, .string a0_3, .string a0_4] 29 (0, 0)) (by (with_reducible repeat (first | refine blk_drewN ?_ _ | refine blk_drew ?_ | refine blk_alloc ?_ _)); exact BK140.out) hb)
            have n2_ := Aside0.mk (blk_below (g := gb141) (o := .cells #[.int .u64 a1_0, .int .u64 a1_1, .int .u64 a1_2, .string a1_3, .string a1_4] 29 (0, 0)) (by (with_reducible repeat (first | refine blk_drewN ?_ _ | refine blk_drew ?_ | refine blk_alloc ?_ _)); exact BK141.out) hb)
            have n3_ := Aside0.mk (below_step (by repeat (first | (with_reducible first | exact HB.out | apply below_alloc | apply pw_below_drewN | apply below_drew1 | refine below_set ?_ GE140.out | refine below_set ?_ GE141.out) | exact HB.out)) hb)
            clear HO146
            clear BK140
            clear BK141
            clear HB
            have HO146 := n0_
            have BK140 := n1_
            have BK141 := n2_
            have HB := n3_
            clear n0_ n1_ n2_ n3_
            (try clear hb)
            (try clear hb2)
            (try clear hk)
            (try clear hi)
            refine hK.out _ _ ⟨(blk_cell BK141.out 0).trans rfl, (blk_cell BK141.out 1).trans rfl, (blk_cell BK141.out 2).trans rfl, (blk_cell BK141.out 3).trans rfl, (blk_cell BK141.out 4).trans rfl, (blk_cell BK140.out 0).trans rfl, (blk_cell BK140.out 1).trans rfl, (blk_cell BK140.out 2).trans rfl, (blk_cell BK140.out 3).trans rfl, (blk_cell BK140.out 4).trans rfl⟩ (fun hHeld => ?_)
            clear hK K
            refine norm_ (a' := ?_) ?_ ?_
            rotate_left
            · show Act.put _ (some 21) _ = _
              simp only [Act.put, List.setIfInBounds_toArray, List.set_cons_zero, List.set_cons_succ, i64_w, i32_w]
              rfl
            refine one_ (i := 6) (N := some 24) #[true, true, true, true, true, true, true, false, false, false, false, false, false, false, false] rfl rfl (one_of HT_.out (by kernel_rfl)) (by decide) (fun K hK => ?_)
            refine goes_ Tryd.func41 (by kernel_rfl) rfl #[.agg #[.int .u64 a0_0, .int .u64 a0_1, .int .u64 a0_2, .string a0_3, .string a0_4], .agg #[.int .u64 a1_0, .int .u64 a1_1, .int .u64 a1_2, .string a1_3, .string a1_4]] (by rfl) rfl rfl (by (try simp only [List.map_toArray, List.map_cons, List.map_nil]); first | done | rfl | (simp only [List.length_drop, List.length_take]; rfl)) ?_
            with_reducible refine (Hand.VersionGreaterEqual.calls a0_0 a0_1 a0_2 a0_3 a0_4 a1_0 a1_1 a1_2 a1_3 a1_4 t155 _ ?gl5 A22.out).mono ?_
            case gl5 => (first | exact HG.out | exact Hand.Gl.below HG.out (by repeat (first | (with_reducible first | exact HB.out | apply below_alloc | apply pw_below_drewN | apply below_drew1) | exact HB.out)))
            rintro e w49 ⟨rfl, hb⟩
            refine ⟨_, rfl, ?_⟩
            have n0_ := Aside0.mk (Kd.R_below (by (with_reducible repeat (first | apply Kd.R_alloc | apply Kd.R_drewN | apply Kd.R_drew)); exact HO146.out) hb)
            have n1_ := Aside0.mk (blk_below (g := gb140) (o := .cells #[.int .u64 a0_0, .int .u64 a0_1, .int .u64 a0_2, .string a0_3, .string a0_4] 29 (0, 0)) (by (with_reducible repeat (first | refine blk_drewN ?_ _ | refine blk_drew ?_ | refine blk_alloc ?_ _)); exact BK140.out) hb)
            have n2_ := Aside0.mk (blk_below (g := gb141) (o := .cells #[.int .u64 a1_0, .int .u64 a1_1, .int .u64 a1_2, .string a1_3, .string a1_4] 29 (0, 0)) (by (with_reducible repeat (first | refine blk_drewN ?_ _ | refine blk_drew ?_ | refine blk_alloc ?_ _)); exact BK141.out) hb)
            have n3_ := Aside0.mk (below_step (by repeat (first | (with_reducible first | exact HB.out | apply below_alloc | apply pw_below_drewN | apply below_drew1 | refine below_set ?_ GE140.out | refine below_set ?_ GE141.out) | exact HB.out)) hb)
            clear HO146
            clear BK140
            clear BK141
            clear HB
            have HO146 := n0_
            have BK140 := n1_
            have BK141 := n2_
            have HB := n3_
            clear n0_ n1_ n2_ n3_
            (try clear hb)
            (try clear hb2)
            (try clear hk)
            (try clear hi)
            refine hK.out _ _ ⟨(blk_cell BK141.out 0).trans rfl, (blk_cell BK141.out 1).trans rfl, (blk_cell BK141.out 2).trans rfl, (blk_cell BK141.out 3).trans rfl, (blk_cell BK141.out 4).trans rfl, (blk_cell BK140.out 0).trans rfl, (blk_cell BK140.out 1).trans rfl, (blk_cell BK140.out 2).trans rfl, (blk_cell BK140.out 3).trans rfl, (blk_cell BK140.out 4).trans rfl⟩ (fun hHeld => ?_)
            clear hK K
            refine norm_ (a' := ?_) ?_ ?_
            rotate_left
            · show Act.put _ (some 24) _ = _
              simp only [Act.put, List.setIfInBounds_toArray, List.set_cons_zero, List.set_cons_succ, i64_w, i32_w]
              rfl
            refine pure_ (i := 7) (N := some 25) (v := ?_) (a' := ?_) #[true, true, true, true, true, true, true, true, false, false, false, false, false, false, false] rfl rfl (any_of HT_.out (by kernel_rfl)) (fun _ _ _ h => h) (Or.inl ⟨by rfl, ?_⟩) ?_ ?_
            rotate_left
            · intro w'
              go_simp
              with_reducible rfl
            rotate_left
            · simp only [Act.put, List.setIfInBounds_toArray, List.set_cons_zero, List.set_cons_succ, i64_w, i32_w]
              rfl
            refine pure_ (i := 8) (N := some 26) (v := ?_) (a' := ?_) #[true, true, true, true, true, true, true, true, true, false, false, false, false, false, false] rfl rfl (any_of HT_.out (by kernel_rfl)) (fun _ _ _ h => h) (Or.inl ⟨by rfl, ?_⟩) ?_ ?_
            rotate_left
            · intro w'
              go_simp
              with_reducible rfl
            rotate_left
            · simp only [Act.put, List.setIfInBounds_toArray, List.set_cons_zero, List.set_cons_succ, i64_w, i32_w]
              rfl
            refine pure_ (i := 9) (N := some 27) (v := undef) (a' := ?_) #[true, true, true, true, true, true, true, true, true, true, false, false, false, false, false] rfl rfl (any_of HT_.out (by kernel_rfl)) (fun _ _ _ h => h) (Or.inr ⟨by rfl, rfl⟩) ?_ ?_
            rotate_left
            · simp only [Act.put, List.setIfInBounds_toArray, List.set_cons_zero, List.set_cons_succ, i64_w, i32_w]
              rfl
            refine pure_ (i := 10) (N := some 28) (v := undef) (a' := ?_) #[true, true, true, true, true, true, true, true, true, true, true, false, false, false, false] rfl rfl (any_of HT_.out (by kernel_rfl)) (fun _ _ _ h => h) (Or.inr ⟨by rfl, rfl⟩) ?_ ?_
            rotate_left
            · simp only [Act.put, List.setIfInBounds_toArray, List.set_cons_zero, List.set_cons_succ, i64_w, i32_w]
              rfl
            refine pure_ (i := 11) (N := some 29) (v := undef) (a' := ?_) #[true, true, true, true, true, true, true, true, true, true, true, true, false, false, false] rfl rfl (any_of HT_.out (by kernel_rfl)) (fun _ _ _ h => h) (Or.inr ⟨by rfl, rfl⟩) ?_ ?_
            rotate_left
            · simp only [Act.put, List.setIfInBounds_toArray, List.set_cons_zero, List.set_cons_succ, i64_w, i32_w]
              rfl
            refine pure_ (i := 12) (N := some 30) (v := undef) (a' := ?_) #[true, true, true, true, true, true, true, true, true, true, true, true, true, false, false] rfl rfl (any_of HT_.out (by kernel_rfl)) (fun _ _ _ h => h) (Or.inr ⟨by rfl, rfl⟩) ?_ ?_
            rotate_left
            · simp only [Act.put, List.setIfInBounds_toArray, List.set_cons_zero, List.set_cons_succ, i64_w, i32_w]
              rfl
            refine pure_ (i := 13) (N := some 31) (v := ?_) (a' := ?_) #[true, true, true, true, true, true, true, true, true, true, true, true, true, true, false] rfl rfl (any_of HT_.out (by kernel_rfl)) (fun _ _ _ h => h) (Or.inl ⟨by rfl, ?_⟩) ?_ ?_
            rotate_left
            · intro w'
              go_simp
              with_reducible rfl
            rotate_left
            · simp only [Act.put, List.setIfInBounds_toArray, List.set_cons_zero, List.set_cons_succ, i64_w, i32_w]
              rfl
            refine pure_ (i := 14) (N := some 4) (v := ?_) (a' := ?_) #[true, true, true, true, true, true, true, true, true, true, true, true, true, true, true] rfl rfl (any_of HT_.out (by kernel_rfl)) (fun _ _ _ h => h) (Or.inl ⟨by rfl, ?_⟩) ?_ ?_
            rotate_left
            · intro w'
              go_simp
              with_reducible rfl
            rotate_left
            · simp only [Act.put, List.setIfInBounds_toArray, List.set_cons_zero, List.set_cons_succ, i64_w, i32_w]
              rfl
            refine done_ (done_of HT_.out (by kernel_rfl)) ?_
            try go_wp2
            go_ret
            exact ⟨by first | rfl | (simp [errW_none, errW_some] <;> rfl) | (simp [*, errW_none, errW_some] <;> rfl), by repeat (first | (with_reducible first | exact HB.out | apply below_alloc | apply pw_below_drewN | apply below_drew1 | refine below_set ?_ GE140.out | refine below_set ?_ GE141.out) | exact HB.out)⟩
        · replace c19 := Bool.eq_false_iff.mpr c19
          subst c19
          have H1 : (some true) = some r := by rw [if_neg (show ¬ (false = true) by decide)] at H; exact H
          clear H
          have H := H1
          clear H1
          obtain rfl := Option.some.inj H
          have hnb50 := NB140_141.out
          have hnc50 := NB141_140.out
          have hcz51_0 : wc.cell? ⟨gb140, 0, none⟩ = some (.int .u64 a0_0) := (blk_cell BK140.out 0).trans rfl
          have hcz51_1 : wc.cell? ⟨gb140, 1, none⟩ = some (.int .u64 a0_1) := (blk_cell BK140.out 1).trans rfl
          have hcz51_2 : wc.cell? ⟨gb140, 2, none⟩ = some (.int .u64 a0_2) := (blk_cell BK140.out 2).trans rfl
          have hcz51_3 : wc.cell? ⟨gb140, 3, none⟩ = some (.string a0_3) := (blk_cell BK140.out 3).trans rfl
          have hcz51_4 : wc.cell? ⟨gb140, 4, none⟩ = some (.string a0_4) := (blk_cell BK140.out 4).trans rfl
          have hfz51_0 := blk_frozen BK140.out 0
          have hfz51_1 := blk_frozen BK140.out 1
          have hfz51_2 := blk_frozen BK140.out 2
          have hfz51_3 := blk_frozen BK140.out 3
          have hfz51_4 := blk_frozen BK140.out 4
          have hcz52_0 : wc.cell? ⟨gb141, 0, none⟩ = some (.int .u64 a1_0) := (blk_cell BK141.out 0).trans rfl
          have hcz52_1 : wc.cell? ⟨gb141, 1, none⟩ = some (.int .u64 a1_1) := (blk_cell BK141.out 1).trans rfl
          have hcz52_2 : wc.cell? ⟨gb141, 2, none⟩ = some (.int .u64 a1_2) := (blk_cell BK141.out 2).trans rfl
          have hcz52_3 : wc.cell? ⟨gb141, 3, none⟩ = some (.string a1_3) := (blk_cell BK141.out 3).trans rfl
          have hcz52_4 : wc.cell? ⟨gb141, 4, none⟩ = some (.string a1_4) := (blk_cell BK141.out 4).trans rfl
          have hfz52_0 := blk_frozen BK141.out 0
          have hfz52_1 := blk_frozen BK141.out 1
          have hfz52_2 := blk_frozen BK141.out 2
          have hfz52_3 := blk_frozen BK141.out 3
          have hfz52_4 := blk_frozen BK141.out 4
          go_wp2_with (first | ((with_reducible refine gate_dst (N := 15) rfl ?_); refine Kd.R_lit k29 _ 29 ?hg (N := 15) ?hd (xs := ([(⟨a0_0, a0_1, a0_2, a0_3, a0_4⟩ : S29), (⟨a1_0, a1_1, a1_2, a1_3, a1_4⟩ : S29)] : List (S29))) (inner := [.int .u64 a0_0, .int .u64 a0_1, .int .u64 a0_2, .string a0_3, .string a0_4, .int .u64 a1_0, .int .u64 a1_1, .int .u64 a1_2, .string a1_3, .string a1_4]) (ok := fun _ => True) (okp := fun _ => True) ?hr ?hp (fun _ hk => hk) trivial (Below.refl _ _) (Nat.le_refl _) (by simp) ?_; (case hd => rfl); (case hg => rfl); (case hr => first | (go_simp; done) | (go_simp; rfl)); (case hp => exact (Reps.c5 (show Kd.M k29 _ _ _ (⟨a0_0, a0_1, a0_2, a0_3, a0_4⟩ : S29) [.int .u64 a0_0, .int .u64 a0_1, .int .u64 a0_2, .string a0_3, .string a0_4] from (k29_mkM _ _ _ (⟨a0_0, a0_1, a0_2, a0_3, a0_4⟩ : S29) )) (Reps.c5 (show Kd.M k29 _ _ _ (⟨a1_0, a1_1, a1_2, a1_3, a1_4⟩ : S29) [.int .u64 a1_0, .int .u64 a1_1, .int .u64 a1_2, .string a1_3, .string a1_4] from (k29_mkM _ _ _ (⟨a1_0, a1_1, a1_2, a1_3, a1_4⟩ : S29) )) (Reps.none _ _)))); intro v145 w53 ho54 hb hg_ hnew_; clear hg_ hnew_; (first | rw [← Ny144.out] at ho54 | (simp only [Int.reduceToNat] at ho54; rw [← Ny144.out] at ho54)); have n0_ := Aside0.mk (Kd.R_lower (Kd.R_newB (Kd.R_newB ho54 (g := gb140) (o := .cells #[.int .u64 a0_0, .int .u64 a0_1, .int .u64 a0_2, .string a0_3, .string a0_4] 29 (0, 0)) (by (with_reducible repeat (first | refine blk_drewN ?_ _ | refine blk_drew ?_ | refine blk_alloc ?_ _)); exact BK140.out)) (g := gb141) (o := .cells #[.int .u64 a1_0, .int .u64 a1_1, .int .u64 a1_2, .string a1_3, .string a1_4] 29 (0, 0)) (by (with_reducible repeat (first | refine blk_drewN ?_ _ | refine blk_drew ?_ | refine blk_alloc ?_ _)); exact BK141.out)) (below_size (by repeat (first | (with_reducible first | exact HB.out | apply below_alloc | apply pw_below_drewN | apply below_drew1 | refine below_set ?_ GE140.out | refine below_set ?_ GE141.out) | exact HB.out)))); have n1_ := Aside0.mk (blk_below (g := gb140) (o := .cells #[.int .u64 a0_0, .int .u64 a0_1, .int .u64 a0_2, .string a0_3, .string a0_4] 29 (0, 0)) (by (with_reducible repeat (first | refine blk_drewN ?_ _ | refine blk_drew ?_ | refine blk_alloc ?_ _)); exact BK140.out) hb); have n2_ := Aside0.mk (blk_below (g := gb141) (o := .cells #[.int .u64 a1_0, .int .u64 a1_1, .int .u64 a1_2, .string a1_3, .string a1_4] 29 (0, 0)) (by (with_reducible repeat (first | refine blk_drewN ?_ _ | refine blk_drew ?_ | refine blk_alloc ?_ _)); exact BK141.out) hb); have n3_ := Aside0.mk (below_step (by repeat (first | (with_reducible first | exact HB.out | apply below_alloc | apply pw_below_drewN | apply below_drew1 | refine below_set ?_ GE140.out | refine below_set ?_ GE141.out) | exact HB.out)) hb); clear BK140; clear BK141; clear HB; have HO146 := n0_; have BK140 := n1_; have BK141 := n2_; have HB := n3_; clear n0_ n1_ n2_ n3_; clear hb ho54; obtain ⟨Ao55, co55, eo55⟩ := Kd.R_slice HO146.out; subst eo55) | ((with_reducible refine gate_callee (f := 26) rfl ?_); refine goesL_ (some 16) rfl rfl Tryd.func26 (by kernel_rfl) rfl #[.slice Ao55 y144.length co55] rfl (by (try simp only [List.map_toArray, List.map_cons, List.map_nil]); first | done | rfl | (simp only [List.length_drop, List.length_take]; rfl)) ?_; (with_reducible refine (laws_svGood.calls kj2 _ _ y144 false _ ?side1 ?side2 A18.out).mono ?_); (case side1 => repeat (first | exact (Kd.R_reads' HO146.out).2.2 | (with_reducible refine Kd.C_alloc ?_ _) | (with_reducible refine Kd.C_drewN ?_ _) | (with_reducible refine Kd.C_drew ?_))); (case side2 => exact (Kd.R_reads' HO146.out).2.1); rintro e w56 ⟨rfl, hb⟩; refine ⟨_, rfl, ?_⟩; have n0_ := Aside0.mk (Kd.R_below (by (with_reducible repeat (first | apply Kd.R_alloc | apply Kd.R_drewN | apply Kd.R_drew)); exact HO146.out) hb); have n1_ := Aside0.mk (blk_below (g := gb140) (o := .cells #[.int .u64 a0_0, .int .u64 a0_1, .int .u64 a0_2, .string a0_3, .string a0_4] 29 (0, 0)) (by (with_reducible repeat (first | refine blk_drewN ?_ _ | refine blk_drew ?_ | refine blk_alloc ?_ _)); exact BK140.out) hb); have n2_ := Aside0.mk (blk_below (g := gb141) (o := .cells #[.int .u64 a1_0, .int .u64 a1_1, .int .u64 a1_2, .string a1_3, .string a1_4] 29 (0, 0)) (by (with_reducible repeat (first | refine blk_drewN ?_ _ | refine blk_drew ?_ | refine blk_alloc ?_ _)); exact BK141.out) hb); have n3_ := Aside0.mk (below_step (by repeat (first | (with_reducible first | exact HB.out | apply below_alloc | apply pw_below_drewN | apply below_drew1 | refine below_set ?_ GE140.out | refine below_set ?_ GE141.out) | exact HB.out)) hb); clear HO146; clear BK140; clear BK141; clear HB; have HO146 := n0_; have BK140 := n1_; have BK141 := n2_; have HB := n3_; clear n0_ n1_ n2_ n3_; (try clear hb); (try clear hb2); (try clear hk); (try clear hi)))
          go_ret
          exact ⟨by first | rfl | (simp [errW_none, errW_some] <;> rfl) | (simp [*, errW_none, errW_some] <;> rfl), by repeat (first | (with_reducible first | exact HB.out | apply below_alloc | apply pw_below_drewN | apply below_drew1 | refine below_set ?_ GE140.out | refine below_set ?_ GE141.out) | exact HB.out)⟩

end Go.Proofs.YtalpehfjjidfhaaDoor.MD
