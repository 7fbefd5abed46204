-- Written by a program of this session (wip/tools/myprint.py over the kit's print).
import Derived.Test.YtalpehfjjidfhaaDoorMEx0
import Derived.Test.YtalpehfjjidfhaaDoorMEx1
import Derived.Test.YtalpehfjjidfhaaDoorMEx2
namespace Go.Proofs.YtalpehfjjidfhaaDoor.ME
open Go.RowKit Go.Proofs.YtalpehfjjidfhaaDoorW.PrintWords Go.Proofs.YtalpehfjjidfhaaDoorW.PrintLast Go.Proofs.YtalpehfjjidfhaaDoorW.PrintMore Go.Proofs.YtalpehfjjidfhaaDoor
attribute [local go_sem] max2_int min2_int max_two min_two max_three min_three max_four min_four   -- for this text's walks alone
set_option linter.unusedVariables false
set_option linter.unusedSimpArgs false

/-! ### laws_FnSemverEqualWild: function 13 -/
mutual
def laws_FnSemverEqualWild.j0 : Nat → Int → Bool → Bool → Int → Int → Int → ByteArray → ByteArray → Int → Int → Int → ByteArray → ByteArray → Option (Bool)
  | 0, _, _, _, _, _, _, _, _, _, _, _, _, _ => none
  | k + 1, x1, x3, x17, x143000, x143001, x143002, x143003, x143004, x144000, x144001, x144002, x144003, x144004 => if x17 = true then (some true) else (if x1 < 0 then (laws_FnSemverEqualWild.j1 k x1 x3 true x143000 x143001 x143002 x143003 x143004 x144000 x144001 x144002 x144003 x144004) else (if x1 > 2 then (laws_FnSemverEqualWild.j1 k x1 x3 true x143000 x143001 x143002 x143003 x143004 x144000 x144001 x144002 x144003 x144004) else ((laws_svGood.f k (([(⟨x144000, x144001, x144002, x144003, x144004⟩ : S29)] : List (S29)))).bind fun t149 => (laws_FnSemverEqualWild.j1 k x1 x3 (!t149) x143000 x143001 x143002 x143003 x143004 x144000 x144001 x144002 x144003 x144004))))
def laws_FnSemverEqualWild.j1 : Nat → Int → Bool → Bool → Int → Int → Int → ByteArray → ByteArray → Int → Int → Int → ByteArray → ByteArray → Option (Bool)
  | 0, _, _, _, _, _, _, _, _, _, _, _, _, _ => none
  | k + 1, x1, x3, x29, x143000, x143001, x143002, x143003, x143004, x144000, x144001, x144002, x144003, x144004 => if x29 = true then (some true) else ((Hand.stTerm.f 0 x143000 x143001 x143002 x143003 x143004 x1).bind fun bt150 => (if x1 = 0 then (laws_FnSemverEqualWild.j2 k x1 x3 x143000 x143001 x143002 x143003 x143004 x144000 x144001 x144002 x144003 x144004 bt150.1 bt150.2.1 0 bt150.2.2.2.1 bt150.2.2.2.2.1 bt150.2.2.2.2.2) else (laws_FnSemverEqualWild.j2 k x1 x3 x143000 x143001 x143002 x143003 x143004 x144000 x144001 x144002 x144003 x144004 bt150.1 bt150.2.1 bt150.2.2.1 bt150.2.2.2.1 bt150.2.2.2.2.1 bt150.2.2.2.2.2)))
def laws_FnSemverEqualWild.j2 : Nat → Int → Bool → Int → Int → Int → ByteArray → ByteArray → Int → Int → Int → ByteArray → ByteArray → Int → Int → Int → Int → Int → ByteArray → Option (Bool)
  | 0, _, _, _, _, _, _, _, _, _, _, _, _, _, _, _, _, _, _ => none
  | k + 1, x1, x3, x143000, x143001, x143002, x143003, x143004, x144000, x144001, x144002, x144003, x144004, x157000, x157001, x157002, x157003, x157004, x157005 => (Hand.EqualHolds.f x157000 x157001 x157002 x157003 x157004 x157005 x144000 x144001 x144002 x144003 x144004 x3).bind fun t157 => ((Hand.TildeHolds.f x157000 x157001 x157002 x157003 x157004 x157005 x144000 x144001 x144002 x144003 x144004 x3).bind fun t158 => (if (t157 == t158) = true then ((laws_scFirst.f x143000 x143001 x143002 x143003 x143004 x1).bind fun bt159 => ((Hand.EqualHolds.f x157000 x157001 x157002 x157003 x157004 x157005 bt159.1 bt159.2.1 bt159.2.2.1 bt159.2.2.2.1 bt159.2.2.2.2 x3).bind fun t164 => (some t164))) else (some false)))
end
def laws_FnSemverEqualWild.f (k : Nat) (a0_0 : Int) (a0_1 : Int) (a0_2 : Int) (a0_3 : ByteArray) (a0_4 : ByteArray) (a1 : Int) (a2_0 : Int) (a2_1 : Int) (a2_2 : Int) (a2_3 : ByteArray) (a2_4 : ByteArray) (a3 : Bool) : Option (Bool) := (laws_zzFits14.f a0_0 a0_1 a0_2 a0_3 a0_4).bind fun t144 => (if t144 = true then ((laws_zzFits14.f a2_0 a2_1 a2_2 a2_3 a2_4).bind fun t145 => (laws_FnSemverEqualWild.j0 k a1 a3 (!t145) a0_0 a0_1 a0_2 a0_3 a0_4 a2_0 a2_1 a2_2 a2_3 a2_4)) else (laws_FnSemverEqualWild.j0 k a1 a3 true a0_0 a0_1 a0_2 a0_3 a0_4 a2_0 a2_1 a2_2 a2_3 a2_4))
theorem laws_FnSemverEqualWild.mono_l : ∀ k, (∀ y0 y1 y2 y3 y4 y5 y6 y7 y8 y9 y10 y11 y12, LeO (laws_FnSemverEqualWild.j0 k y0 y1 y2 y3 y4 y5 y6 y7 y8 y9 y10 y11 y12) (laws_FnSemverEqualWild.j0 (k + 1) y0 y1 y2 y3 y4 y5 y6 y7 y8 y9 y10 y11 y12)) ∧ (∀ y0 y1 y2 y3 y4 y5 y6 y7 y8 y9 y10 y11 y12, LeO (laws_FnSemverEqualWild.j1 k y0 y1 y2 y3 y4 y5 y6 y7 y8 y9 y10 y11 y12) (laws_FnSemverEqualWild.j1 (k + 1) y0 y1 y2 y3 y4 y5 y6 y7 y8 y9 y10 y11 y12)) ∧ (∀ y0 y1 y2 y3 y4 y5 y6 y7 y8 y9 y10 y11 y12 y13 y14 y15 y16 y17, LeO (laws_FnSemverEqualWild.j2 k y0 y1 y2 y3 y4 y5 y6 y7 y8 y9 y10 y11 y12 y13 y14 y15 y16 y17) (laws_FnSemverEqualWild.j2 (k + 1) y0 y1 y2 y3 y4 y5 y6 y7 y8 y9 y10 y11 y12 y13 y14 y15 y16 y17))
  | 0 => ⟨fun _ _ _ _ _ _ _ _ _ _ _ _ _ r h => by simp [laws_FnSemverEqualWild.j0] at h, fun _ _ _ _ _ _ _ _ _ _ _ _ _ r h => by simp [laws_FnSemverEqualWild.j1] at h, fun _ _ _ _ _ _ _ _ _ _ _ _ _ _ _ _ _ _ r h => by simp [laws_FnSemverEqualWild.j2] at h⟩
  | k + 1 => by
    obtain ⟨ih0, ih1, ih2⟩ := laws_FnSemverEqualWild.mono_l k
    refine ⟨?_, ?_, ?_⟩
    · intro y0 y1 y2 y3 y4 y5 y6 y7 y8 y9 y10 y11 y12
      unfold laws_FnSemverEqualWild.j0
      repeat' first
      | (with_reducible exact ih0 _ _ _ _ _ _ _ _ _ _ _ _ _)
      | (with_reducible exact ih1 _ _ _ _ _ _ _ _ _ _ _ _ _)
      | (with_reducible exact ih2 _ _ _ _ _ _ _ _ _ _ _ _ _ _ _ _ _ _)
      | (with_reducible exact laws_svGood.mono _ _)
      | (with_reducible exact LeO.refl _)
      | (with_reducible exact LeO.none _)
      | (with_reducible refine LeO.ite ?_ ?_)
      | (with_reducible refine LeO.bind ?_ (fun _ => ?_))
      | exact ih0 _ _ _ _ _ _ _ _ _ _ _ _ _
      | exact ih1 _ _ _ _ _ _ _ _ _ _ _ _ _
      | exact ih2 _ _ _ _ _ _ _ _ _ _ _ _ _ _ _ _ _ _
      | exact laws_svGood.mono _ _
      | exact LeO.none _
      | refine LeO.ite ?_ ?_
      | refine LeO.bind ?_ (fun _ => ?_)
    · intro y0 y1 y2 y3 y4 y5 y6 y7 y8 y9 y10 y11 y12
      unfold laws_FnSemverEqualWild.j1
      repeat' first
      | (with_reducible exact ih0 _ _ _ _ _ _ _ _ _ _ _ _ _)
      | (with_reducible exact ih1 _ _ _ _ _ _ _ _ _ _ _ _ _)
      | (with_reducible exact ih2 _ _ _ _ _ _ _ _ _ _ _ _ _ _ _ _ _ _)
      | (with_reducible exact laws_svGood.mono _ _)
      | (with_reducible exact LeO.refl _)
      | (with_reducible exact LeO.none _)
      | (with_reducible refine LeO.ite ?_ ?_)
      | (with_reducible refine LeO.bind ?_ (fun _ => ?_))
      | exact ih0 _ _ _ _ _ _ _ _ _ _ _ _ _
      | exact ih1 _ _ _ _ _ _ _ _ _ _ _ _ _
      | exact ih2 _ _ _ _ _ _ _ _ _ _ _ _ _ _ _ _ _ _
      | exact laws_svGood.mono _ _
      | exact LeO.none _
      | refine LeO.ite ?_ ?_
      | refine LeO.bind ?_ (fun _ => ?_)
    · intro y0 y1 y2 y3 y4 y5 y6 y7 y8 y9 y10 y11 y12 y13 y14 y15 y16 y17
      unfold laws_FnSemverEqualWild.j2
      repeat' first
      | (with_reducible exact ih0 _ _ _ _ _ _ _ _ _ _ _ _ _)
      | (with_reducible exact ih1 _ _ _ _ _ _ _ _ _ _ _ _ _)
      | (with_reducible exact ih2 _ _ _ _ _ _ _ _ _ _ _ _ _ _ _ _ _ _)
      | (with_reducible exact laws_svGood.mono _ _)
      | (with_reducible exact LeO.refl _)
      | (with_reducible exact LeO.none _)
      | (with_reducible refine LeO.ite ?_ ?_)
      | (with_reducible refine LeO.bind ?_ (fun _ => ?_))
      | exact ih0 _ _ _ _ _ _ _ _ _ _ _ _ _
      | exact ih1 _ _ _ _ _ _ _ _ _ _ _ _ _
      | exact ih2 _ _ _ _ _ _ _ _ _ _ _ _ _ _ _ _ _ _
      | exact laws_svGood.mono _ _
      | exact LeO.none _
      | refine LeO.ite ?_ ?_
      | refine LeO.bind ?_ (fun _ => ?_)
theorem laws_FnSemverEqualWild.mono : ∀ a0 a1 a2 a3 a4 a5 a6 a7 a8 a9 a10 a11 k, LeO (laws_FnSemverEqualWild.f k a0 a1 a2 a3 a4 a5 a6 a7 a8 a9 a10 a11) (laws_FnSemverEqualWild.f (k + 1) a0 a1 a2 a3 a4 a5 a6 a7 a8 a9 a10 a11) := by
  intro a0 a1 a2 a3 a4 a5 a6 a7 a8 a9 a10 a11 k
  obtain ⟨ih0, ih1, ih2⟩ := laws_FnSemverEqualWild.mono_l k
  unfold laws_FnSemverEqualWild.f
  repeat' first
      | (with_reducible exact ih0 _ _ _ _ _ _ _ _ _ _ _ _ _)
      | (with_reducible exact ih1 _ _ _ _ _ _ _ _ _ _ _ _ _)
      | (with_reducible exact ih2 _ _ _ _ _ _ _ _ _ _ _ _ _ _ _ _ _ _)
      | (with_reducible exact laws_svGood.mono _ _)
      | (with_reducible exact LeO.refl _)
      | (with_reducible exact LeO.none _)
      | (with_reducible refine LeO.ite ?_ ?_)
      | (with_reducible refine LeO.bind ?_ (fun _ => ?_))
      | exact ih0 _ _ _ _ _ _ _ _ _ _ _ _ _
      | exact ih1 _ _ _ _ _ _ _ _ _ _ _ _ _
      | exact ih2 _ _ _ _ _ _ _ _ _ _ _ _ _ _ _ _ _ _
      | exact laws_svGood.mono _ _
      | exact LeO.none _
      | refine LeO.ite ?_ ?_
      | refine LeO.bind ?_ (fun _ => ?_)
def laws_FnSemverEqualWild.T8 : Bool × List (List Nat × List Nat) := (true, [([], []), ([], []), ([], []), ([0, 1, 2], [0, 1, 2]), ([], []), ([], []), ([], []), ([4, 5, 6, 3], [4, 5, 6]), ([3, 7], [3, 7]), ([8, 7], [8]), ([9], [9]), ([9], [9]), ([9], [9]), ([11, 12, 9, 9], [9, 11, 12]), ([9], [9]), ([10, 13, 14, 13, 9], [9, 10, 13, 14]), ([9, 15], [9, 15]), ([16, 15, 0, 1, 2, 3, 4, 5, 6, 7, 8, 9, 10, 11, 12, 13, 14, 15, 16], [16])])
def laws_FnSemverEqualWild.B8 : List Nat := [0, 0, 0, 7, 0, 0, 0, 127, 255, 511, 1023, 1023, 1023, 7167, 1023, 32767, 65535, 131071]
theorem laws_FnSemverEqualWild.tab8 : rtab .any (opsOf Tryd.f13 8) = laws_FnSemverEqualWild.T8 := by kernel_rfl
theorem laws_FnSemverEqualWild.bits8 : waitsOk laws_FnSemverEqualWild.T8.2 laws_FnSemverEqualWild.B8 = true := by kernel_rfl
set_option maxHeartbeats 8000000 in
set_option maxRecDepth 100000 in
theorem laws_FnSemverEqualWild.calls (k : Nat) (a0_0 : Int) (a0_1 : Int) (a0_2 : Int) (a0_3 : ByteArray) (a0_4 : ByteArray) (a1 : Int) (a2_0 : Int) (a2_1 : Int) (a2_2 : Int) (a2_3 : ByteArray) (a2_4 : ByteArray) (a3 : Bool) (r : Bool) (w : World) (hG0 : Hand.Gl w) (h : laws_FnSemverEqualWild.f k a0_0 a0_1 a0_2 a0_3 a0_4 a1 a2_0 a2_1 a2_2 a2_3 a2_4 a3 = some r) :
    Calls Tryd.prog 13 #[.agg #[.int .u64 a0_0, .int .u64 a0_1, .int .u64 a0_2, .string a0_3, .string a0_4], .int .i64 a1, .agg #[.int .u64 a2_0, .int .u64 a2_1, .int .u64 a2_2, .string a2_3, .string a2_4], .bool a3] w fun e w' => e = .returned (.bool r) ∧ Below w.heap.size w w' := by
  have HG := Aside0.mk hG0
  clear hG0
  have hu29 := Tryd.underlying29
  have hu42 := Tryd.underlying42
  have HB := Aside0.mk (Below.refl w.heap.size w)
  have H : ((laws_zzFits14.f a0_0 a0_1 a0_2 a0_3 a0_4).bind fun t144 => (if t144 = true then ((laws_zzFits14.f a2_0 a2_1 a2_2 a2_3 a2_4).bind fun t145 => (laws_FnSemverEqualWild.j0 k a1 a3 (!t145) a0_0 a0_1 a0_2 a0_3 a0_4 a2_0 a2_1 a2_2 a2_3 a2_4)) else (laws_FnSemverEqualWild.j0 k a1 a3 true a0_0 a0_1 a0_2 a0_3 a0_4 a2_0 a2_1 a2_2 a2_3 a2_4))) = some r := h
  clear h
  have HC5 := Aside0.mk H
  clear H
  go_enter Tryd.func13, Tryd.ntmps13
  go_upto_region 1 with (first | ((with_reducible refine gate_dst (N := 4) rfl ?_); (try (refine gate_guard (by rfl) ?_; dsimp only)); refine box_event ?hg (N := 4) ?hd (cs := #[.int .u64 a0_0, .int .u64 a0_1, .int .u64 a0_2, .string a0_3, .string a0_4]) (t := 29) ?hr ?_; (case hd => rfl); (case hg => rfl); (case hr => first | (go_simp; done) | (go_simp; rfl)); intro gb142 hg w6 hbox hb; have n0_ := Aside0.mk (below_step (by repeat (first | (with_reducible first | exact HB.out | apply below_alloc | apply pw_below_drewN | apply below_drew1) | exact HB.out)) hb); have n1_ := Aside0.mk (hbox); have n2_ := Aside0.mk ((by rw [hg]; exact (below_size (by repeat (first | (with_reducible first | exact HB.out | apply below_alloc | apply pw_below_drewN | apply below_drew1) | exact HB.out))) : w.heap.size ≤ gb142)); have n3_ := Aside0.mk ((by rw [hg]; exact (below_size (by repeat (first | (with_reducible first | exact HB.out | apply below_alloc | apply pw_below_drewN | apply below_drew1) | exact HB.out))) : w.heap.size ≤ gb142)); clear HB; have HB := n0_; have BK142 := n1_; have GW142 := n2_; have GE142 := n3_; clear n0_ n1_ n2_ n3_; clear hb hbox hg) | ((with_reducible refine gate_dst (N := 6) rfl ?_); (try (refine gate_guard (by rfl) ?_; dsimp only)); refine box_event ?hg (N := 6) ?hd (cs := #[.int .u64 a2_0, .int .u64 a2_1, .int .u64 a2_2, .string a2_3, .string a2_4]) (t := 29) ?hr ?_; (case hd => rfl); (case hg => rfl); (case hr => first | (go_simp; done) | (go_simp; rfl)); intro gb143 hg w7 hbox hb; have n0_ := Aside0.mk (blk_below (g := gb142) (o := .cells #[.int .u64 a0_0, .int .u64 a0_1, .int .u64 a0_2, .string a0_3, .string a0_4] 29 (0, 0)) (by (with_reducible repeat (first | refine blk_drewN ?_ _ | refine blk_drew ?_ | refine blk_alloc ?_ _)); exact BK142.out) hb); have n1_ := Aside0.mk (below_step (by repeat (first | (with_reducible first | exact HB.out | apply below_alloc | apply pw_below_drewN | apply below_drew1 | refine below_set ?_ GE142.out) | exact HB.out)) hb); have n2_ := Aside0.mk (hbox); have n3_ := Aside0.mk ((by rw [hg]; exact (below_size (by repeat (first | (with_reducible first | exact HB.out | apply below_alloc | apply pw_below_drewN | apply below_drew1 | refine below_set ?_ GE142.out) | exact HB.out))) : w.heap.size ≤ gb143)); have n4_ := Aside0.mk ((by rw [hg]; exact (below_size (by repeat (first | (with_reducible first | exact HB.out | apply below_alloc | apply pw_below_drewN | apply below_drew1 | refine below_set ?_ GE142.out) | exact HB.out))) : w.heap.size ≤ gb143)); have n5_ := Aside0.mk ((by rw [hg]; exact Nat.ne_of_lt (blk_lt (g := gb142) (o := .cells #[.int .u64 a0_0, .int .u64 a0_1, .int .u64 a0_2, .string a0_3, .string a0_4] 29 (0, 0)) (by (with_reducible repeat (first | refine blk_drewN ?_ _ | refine blk_drew ?_ | refine blk_alloc ?_ _)); exact BK142.out)) : gb142 ≠ gb143)); have n6_ := Aside0.mk ((by rw [hg]; exact Nat.ne_of_gt (blk_lt (g := gb142) (o := .cells #[.int .u64 a0_0, .int .u64 a0_1, .int .u64 a0_2, .string a0_3, .string a0_4] 29 (0, 0)) (by (with_reducible repeat (first | refine blk_drewN ?_ _ | refine blk_drew ?_ | refine blk_alloc ?_ _)); exact BK142.out)) : gb143 ≠ gb142)); clear BK142; clear HB; have BK142 := n0_; have HB := n1_; have BK143 := n2_; have GW143 := n3_; have GE143 := n4_; have NB142_143 := n5_; have NB143_142 := n6_; clear n0_ n1_ n2_ n3_ n4_ n5_ n6_; clear hb hbox hg))
  (try simp only [Act.put, List.setIfInBounds_toArray, List.set_cons_zero, List.set_cons_succ])
  go_cut [17] (fun v17 wc => ∃ (kq : Nat) (x17_4 : Bool), v17 = .bool x17_4 ∧ Aside0 (laws_FnSemverEqualWild.j0 kq a1 a3 x17_4 a0_0 a0_1 a0_2 a0_3 a0_4 a2_0 a2_1 a2_2 a2_3 a2_4 = some r) ∧ Aside0 (kq ≤ k) ∧ Aside0 (wc.heap[gb142]? = some (.cells #[.int .u64 a0_0, .int .u64 a0_1, .int .u64 a0_2, .string a0_3, .string a0_4] 29 (0, 0))) ∧ Aside0 (wc.heap[gb143]? = some (.cells #[.int .u64 a2_0, .int .u64 a2_1, .int .u64 a2_2, .string a2_3, .string a2_4] 29 (0, 0))) ∧ Aside0 (Below w.heap.size w wc))
  case first =>
    have H := HC5.out
    clear HC5
    replace H := Option.bind_eq_some_iff.mp H
    obtain ⟨t144, A80, H⟩ := H
    replace H : (if t144 = true then ((laws_zzFits14.f a2_0 a2_1 a2_2 a2_3 a2_4).bind fun t145 => (laws_FnSemverEqualWild.j0 k a1 a3 (!t145) a0_0 a0_1 a0_2 a0_3 a0_4 a2_0 a2_1 a2_2 a2_3 a2_4)) else (laws_FnSemverEqualWild.j0 k a1 a3 true a0_0 a0_1 a0_2 a0_3 a0_4 a2_0 a2_1 a2_2 a2_3 a2_4)) = some r := H
    have A8 := Aside0.mk A80
    clear A80
    by_cases c9 : t144 = true
    · subst c9
      have H1 : ((laws_zzFits14.f a2_0 a2_1 a2_2 a2_3 a2_4).bind fun t145 => (laws_FnSemverEqualWild.j0 k a1 a3 (!t145) a0_0 a0_1 a0_2 a0_3 a0_4 a2_0 a2_1 a2_2 a2_3 a2_4)) = some r := by rw [if_pos rfl] at H; exact H
      clear H
      have H := H1
      clear H1
      replace H := Option.bind_eq_some_iff.mp H
      obtain ⟨t145, A100, H⟩ := H
      replace H : (laws_FnSemverEqualWild.j0 k a1 a3 (!t145) a0_0 a0_1 a0_2 a0_3 a0_4 a2_0 a2_1 a2_2 a2_3 a2_4) = some r := H
      have A10 := Aside0.mk A100
      clear A100
      have H' := Aside0.mk H
      clear H
      have hnb11 := NB142_143.out
      have hnc11 := NB143_142.out
      have hcz12_0 : w7.cell? ⟨gb142, 0, none⟩ = some (.int .u64 a0_0) := (blk_cell BK142.out 0).trans rfl
      have hcz12_1 : w7.cell? ⟨gb142, 1, none⟩ = some (.int .u64 a0_1) := (blk_cell BK142.out 1).trans rfl
      have hcz12_2 : w7.cell? ⟨gb142, 2, none⟩ = some (.int .u64 a0_2) := (blk_cell BK142.out 2).trans rfl
      have hcz12_3 : w7.cell? ⟨gb142, 3, none⟩ = some (.string a0_3) := (blk_cell BK142.out 3).trans rfl
      have hcz12_4 : w7.cell? ⟨gb142, 4, none⟩ = some (.string a0_4) := (blk_cell BK142.out 4).trans rfl
      have hfz12_0 := blk_frozen BK142.out 0
      have hfz12_1 := blk_frozen BK142.out 1
      have hfz12_2 := blk_frozen BK142.out 2
      have hfz12_3 := blk_frozen BK142.out 3
      have hfz12_4 := blk_frozen BK142.out 4
      go_wp2_with (first | ((with_reducible refine gate_callee (f := 25) rfl ?_); refine goesL_ (some 11) rfl rfl Tryd.func25 (by kernel_rfl) rfl #[.agg #[.int .u64 a0_0, .int .u64 a0_1, .int .u64 a0_2, .string a0_3, .string a0_4]] rfl (by (try simp only [List.map_toArray, List.map_cons, List.map_nil]); first | done | rfl | (simp only [List.length_drop, List.length_take]; rfl)) ?_; (with_reducible refine (laws_zzFits14.calls a0_0 a0_1 a0_2 a0_3 a0_4 true _ A8.out).mono ?_); rintro e w13 ⟨rfl, hb⟩; refine ⟨_, rfl, ?_⟩; have n0_ := Aside0.mk (blk_below (g := gb142) (o := .cells #[.int .u64 a0_0, .int .u64 a0_1, .int .u64 a0_2, .string a0_3, .string a0_4] 29 (0, 0)) (by (with_reducible repeat (first | refine blk_drewN ?_ _ | refine blk_drew ?_ | refine blk_alloc ?_ _)); exact BK142.out) hb); have n1_ := Aside0.mk (blk_below (g := gb143) (o := .cells #[.int .u64 a2_0, .int .u64 a2_1, .int .u64 a2_2, .string a2_3, .string a2_4] 29 (0, 0)) (by (with_reducible repeat (first | refine blk_drewN ?_ _ | refine blk_drew ?_ | refine blk_alloc ?_ _)); exact BK143.out) hb); have n2_ := Aside0.mk (below_step (by repeat (first | (with_reducible first | exact HB.out | apply below_alloc | apply pw_below_drewN | apply below_drew1 | refine below_set ?_ GE142.out | refine below_set ?_ GE143.out) | exact HB.out)) hb); clear BK142; clear BK143; clear HB; have BK142 := n0_; have BK143 := n1_; have HB := n2_; clear n0_ n1_ n2_; (try clear hb); (try clear hb2); (try clear hk); (try clear hi); have hcz14_0 : w13.cell? ⟨gb143, 0, none⟩ = some (.int .u64 a2_0) := (blk_cell BK143.out 0).trans rfl; have hcz14_1 : w13.cell? ⟨gb143, 1, none⟩ = some (.int .u64 a2_1) := (blk_cell BK143.out 1).trans rfl; have hcz14_2 : w13.cell? ⟨gb143, 2, none⟩ = some (.int .u64 a2_2) := (blk_cell BK143.out 2).trans rfl; have hcz14_3 : w13.cell? ⟨gb143, 3, none⟩ = some (.string a2_3) := (blk_cell BK143.out 3).trans rfl; have hcz14_4 : w13.cell? ⟨gb143, 4, none⟩ = some (.string a2_4) := (blk_cell BK143.out 4).trans rfl; have hfz14_0 := blk_frozen BK143.out 0; have hfz14_1 := blk_frozen BK143.out 1; have hfz14_2 := blk_frozen BK143.out 2; have hfz14_3 := blk_frozen BK143.out 3; have hfz14_4 := blk_frozen BK143.out 4) | (go_at_call 25; (with_reducible refine (laws_zzFits14.calls a2_0 a2_1 a2_2 a2_3 a2_4 t145 _ A10.out).mono ?_); rintro e w15 ⟨rfl, hb⟩; have n0_ := Aside0.mk (blk_below (g := gb142) (o := .cells #[.int .u64 a0_0, .int .u64 a0_1, .int .u64 a0_2, .string a0_3, .string a0_4] 29 (0, 0)) (by (with_reducible repeat (first | refine blk_drewN ?_ _ | refine blk_drew ?_ | refine blk_alloc ?_ _)); exact BK142.out) hb); have n1_ := Aside0.mk (blk_below (g := gb143) (o := .cells #[.int .u64 a2_0, .int .u64 a2_1, .int .u64 a2_2, .string a2_3, .string a2_4] 29 (0, 0)) (by (with_reducible repeat (first | refine blk_drewN ?_ _ | refine blk_drew ?_ | refine blk_alloc ?_ _)); exact BK143.out) hb); have n2_ := Aside0.mk (below_step (by repeat (first | (with_reducible first | exact HB.out | apply below_alloc | apply pw_below_drewN | apply below_drew1 | refine below_set ?_ GE142.out | refine below_set ?_ GE143.out) | exact HB.out)) hb); clear BK142; clear BK143; clear HB; have BK142 := n0_; have BK143 := n1_; have HB := n2_; clear n0_ n1_ n2_; (try clear hb); (try clear hb2); (try clear hk); (try clear hi)))
      go_meet
      case rel => exact ⟨_, (!t145), (by first | rfl | (simp; done) | (simp [*]; done)), H', ⟨by first | omega | exact Nat.le_refl _⟩, ⟨by (with_reducible repeat (first | refine blk_drewN ?_ _ | refine blk_drew ?_ | refine blk_alloc ?_ _)); exact BK142.out⟩, ⟨by (with_reducible repeat (first | refine blk_drewN ?_ _ | refine blk_drew ?_ | refine blk_alloc ?_ _)); exact BK143.out⟩, ⟨by repeat (first | (with_reducible first | exact HB.out | apply below_alloc | apply pw_below_drewN | apply below_drew1 | refine below_set ?_ GE142.out | refine below_set ?_ GE143.out) | exact HB.out)⟩⟩
    · replace c9 := Bool.eq_false_iff.mpr c9
      subst c9
      have H1 : (laws_FnSemverEqualWild.j0 k a1 a3 true a0_0 a0_1 a0_2 a0_3 a0_4 a2_0 a2_1 a2_2 a2_3 a2_4) = some r := by rw [if_neg (show ¬ (false = true) by decide)] at H; exact H
      clear H
      have H := H1
      clear H1
      have H' := Aside0.mk H
      clear H
      have hnb16 := NB142_143.out
      have hnc16 := NB143_142.out
      have hcz17_0 : w7.cell? ⟨gb142, 0, none⟩ = some (.int .u64 a0_0) := (blk_cell BK142.out 0).trans rfl
      have hcz17_1 : w7.cell? ⟨gb142, 1, none⟩ = some (.int .u64 a0_1) := (blk_cell BK142.out 1).trans rfl
      have hcz17_2 : w7.cell? ⟨gb142, 2, none⟩ = some (.int .u64 a0_2) := (blk_cell BK142.out 2).trans rfl
      have hcz17_3 : w7.cell? ⟨gb142, 3, none⟩ = some (.string a0_3) := (blk_cell BK142.out 3).trans rfl
      have hcz17_4 : w7.cell? ⟨gb142, 4, none⟩ = some (.string a0_4) := (blk_cell BK142.out 4).trans rfl
      have hfz17_0 := blk_frozen BK142.out 0
      have hfz17_1 := blk_frozen BK142.out 1
      have hfz17_2 := blk_frozen BK142.out 2
      have hfz17_3 := blk_frozen BK142.out 3
      have hfz17_4 := blk_frozen BK142.out 4
      go_wp2_with (first | ((with_reducible refine gate_callee (f := 25) rfl ?_); refine goesL_ (some 11) rfl rfl Tryd.func25 (by kernel_rfl) rfl #[.agg #[.int .u64 a0_0, .int .u64 a0_1, .int .u64 a0_2, .string a0_3, .string a0_4]] rfl (by (try simp only [List.map_toArray, List.map_cons, List.map_nil]); first | done | rfl | (simp only [List.length_drop, List.length_take]; rfl)) ?_; (with_reducible refine (laws_zzFits14.calls a0_0 a0_1 a0_2 a0_3 a0_4 false _ A8.out).mono ?_); rintro e w18 ⟨rfl, hb⟩; refine ⟨_, rfl, ?_⟩; have n0_ := Aside0.mk (blk_below (g := gb142) (o := .cells #[.int .u64 a0_0, .int .u64 a0_1, .int .u64 a0_2, .string a0_3, .string a0_4] 29 (0, 0)) (by (with_reducible repeat (first | refine blk_drewN ?_ _ | refine blk_drew ?_ | refine blk_alloc ?_ _)); exact BK142.out) hb); have n1_ := Aside0.mk (blk_below (g := gb143) (o := .cells #[.int .u64 a2_0, .int .u64 a2_1, .int .u64 a2_2, .string a2_3, .string a2_4] 29 (0, 0)) (by (with_reducible repeat (first | refine blk_drewN ?_ _ | refine blk_drew ?_ | refine blk_alloc ?_ _)); exact BK143.out) hb); have n2_ := Aside0.mk (below_step (by repeat (first | (with_reducible first | exact HB.out | apply below_alloc | apply pw_below_drewN | apply below_drew1 | refine below_set ?_ GE142.out | refine below_set ?_ GE143.out) | exact HB.out)) hb); clear BK142; clear BK143; clear HB; have BK142 := n0_; have BK143 := n1_; have HB := n2_; clear n0_ n1_ n2_; (try clear hb); (try clear hb2); (try clear hk); (try clear hi)))
      go_meet
      case rel => exact ⟨_, (true), (by first | rfl | (simp; done) | (simp [*]; done)), H', ⟨by first | omega | exact Nat.le_refl _⟩, ⟨by (with_reducible repeat (first | refine blk_drewN ?_ _ | refine blk_drew ?_ | refine blk_alloc ?_ _)); exact BK142.out⟩, ⟨by (with_reducible repeat (first | refine blk_drewN ?_ _ | refine blk_drew ?_ | refine blk_alloc ?_ _)); exact BK143.out⟩, ⟨by repeat (first | (with_reducible first | exact HB.out | apply below_alloc | apply pw_below_drewN | apply below_drew1 | refine below_set ?_ GE142.out | refine below_set ?_ GE143.out) | exact HB.out)⟩⟩
  case rest =>
    clear HC5
    try clear c1
    try clear c2
    try clear p2
    try clear c9
    try clear c11
    try clear c13
    try clear c16
    try clear hcz12_0
    try clear hcz12_1
    try clear hcz12_2
    try clear hcz12_3
    try clear hcz12_4
    try clear hcz14_0
    try clear hcz14_1
    try clear hcz14_2
    try clear hcz14_3
    try clear hcz14_4
    try clear hcz17_0
    try clear hcz17_1
    try clear hcz17_2
    try clear hcz17_3
    try clear hcz17_4
    try clear hfz12_0
    try clear hfz12_1
    try clear hfz12_2
    try clear hfz12_3
    try clear hfz12_4
    try clear hfz14_0
    try clear hfz14_1
    try clear hfz14_2
    try clear hfz14_3
    try clear hfz14_4
    try clear hfz17_0
    try clear hfz17_1
    try clear hfz17_2
    try clear hfz17_3
    try clear hfz17_4
    obtain ⟨kq, x17_4, rfl, HA, HJ4, BK142, BK143, HB⟩ := hcut
    cases kq with
    | zero => exact absurd HA.out (by simp [laws_FnSemverEqualWild.j0])
    | succ kj4 =>
      have H := HA.out
      clear HA
      simp only [laws_FnSemverEqualWild.j0] at H
      by_cases c19 : x17_4 = true
      · subst c19
        have H1 : (some true) = some r := by rw [if_pos rfl] at H; exact H
        clear H
        have H := H1
        clear H1
        obtain rfl := Option.some.inj H
        go_wp2
        go_ret
        exact ⟨by first | rfl | (simp [errW_none, errW_some] <;> rfl) | (simp [*, errW_none, errW_some] <;> rfl), by repeat (first | (with_reducible first | exact HB.out | apply below_alloc | apply pw_below_drewN | apply below_drew1 | refine below_set ?_ GE142.out | refine below_set ?_ GE143.out) | exact HB.out)⟩
      · replace c19 := Bool.eq_false_iff.mpr c19
        subst c19
        have H1 : (if a1 < 0 then (laws_FnSemverEqualWild.j1 kj4 a1 a3 true a0_0 a0_1 a0_2 a0_3 a0_4 a2_0 a2_1 a2_2 a2_3 a2_4) else (if a1 > 2 then (laws_FnSemverEqualWild.j1 kj4 a1 a3 true a0_0 a0_1 a0_2 a0_3 a0_4 a2_0 a2_1 a2_2 a2_3 a2_4) else ((laws_svGood.f kj4 (([(⟨a2_0, a2_1, a2_2, a2_3, a2_4⟩ : S29)] : List (S29)))).bind fun t149 => (laws_FnSemverEqualWild.j1 kj4 a1 a3 (!t149) a0_0 a0_1 a0_2 a0_3 a0_4 a2_0 a2_1 a2_2 a2_3 a2_4)))) = some r := by rw [if_neg (show ¬ (false = true) by decide)] at H; exact H
        clear H
        have H := H1
        clear H1
        have HC20 := Aside0.mk H
        clear H
        go_upto_region 3 with (fail)
        go_cut [29] (fun v29 wc => ∃ (kq : Nat) (x29_19 : Bool), v29 = .bool x29_19 ∧ Aside0 (laws_FnSemverEqualWild.j1 kq a1 a3 x29_19 a0_0 a0_1 a0_2 a0_3 a0_4 a2_0 a2_1 a2_2 a2_3 a2_4 = some r) ∧ Aside0 (kq ≤ kj4) ∧ Aside0 (wc.heap[gb142]? = some (.cells #[.int .u64 a0_0, .int .u64 a0_1, .int .u64 a0_2, .string a0_3, .string a0_4] 29 (0, 0))) ∧ Aside0 (wc.heap[gb143]? = some (.cells #[.int .u64 a2_0, .int .u64 a2_1, .int .u64 a2_2, .string a2_3, .string a2_4] 29 (0, 0))) ∧ Aside0 (Below w.heap.size w wc))
        case first =>
          have H := HC20.out
          clear HC20
          by_cases c21 : a1 < 0
          · rw [if_pos c21] at H
            have c21b0 : decide (a1 < 0) = true := decide_eq_true c21
            clear c21
            (first | rw [c21b0] | (simp only [i64_w, i32_w]; rw [c21b0]) | skip)
            have H' := Aside0.mk H
            clear H
            go_wp2
            go_meet
            case rel => exact ⟨_, (true), (by first | rfl | (simp; done) | (simp [*]; done)), H', ⟨by have := HJ4.out; first | omega | exact Nat.le_refl _⟩, ⟨by (with_reducible repeat (first | refine blk_drewN ?_ _ | refine blk_drew ?_ | refine blk_alloc ?_ _)); exact BK142.out⟩, ⟨by (with_reducible repeat (first | refine blk_drewN ?_ _ | refine blk_drew ?_ | refine blk_alloc ?_ _)); exact BK143.out⟩, ⟨by repeat (first | (with_reducible first | exact HB.out | apply below_alloc | apply pw_below_drewN | apply below_drew1 | refine below_set ?_ GE142.out | refine below_set ?_ GE143.out) | exact HB.out)⟩⟩
          · rw [if_neg c21] at H
            have c21b0 : decide (a1 < 0) = false := decide_eq_false c21
            clear c21
            (first | rw [c21b0] | (simp only [i64_w, i32_w]; rw [c21b0]) | skip)
            by_cases c22 : a1 > 2
            · rw [if_pos c22] at H
              have c22b0 : decide (2 < a1) = true := decide_eq_true c22
              clear c22
              have H' := Aside0.mk H
              clear H
              go_wp2
              go_meet
              case rel => exact ⟨_, (true), (by first | rfl | (simp; done) | (simp [*]; done)), H', ⟨by have := HJ4.out; first | omega | exact Nat.le_refl _⟩, ⟨by (with_reducible repeat (first | refine blk_drewN ?_ _ | refine blk_drew ?_ | refine blk_alloc ?_ _)); exact BK142.out⟩, ⟨by (with_reducible repeat (first | refine blk_drewN ?_ _ | refine blk_drew ?_ | refine blk_alloc ?_ _)); exact BK143.out⟩, ⟨by repeat (first | (with_reducible first | exact HB.out | apply below_alloc | apply pw_below_drewN | apply below_drew1 | refine below_set ?_ GE142.out | refine below_set ?_ GE143.out) | exact HB.out)⟩⟩
            · rw [if_neg c22] at H
              have c22b0 : decide (2 < a1) = false := decide_eq_false c22
              clear c22
              obtain ⟨y146, hy146⟩ : ∃ y_ : List (S29), y_ = (([(⟨a2_0, a2_1, a2_2, a2_3, a2_4⟩ : S29)] : List (S29))) := ⟨_, rfl⟩
              replace H : ((laws_svGood.f kj4 y146).bind fun t149 => (laws_FnSemverEqualWild.j1 kj4 a1 a3 (!t149) a0_0 a0_1 a0_2 a0_3 a0_4 a2_0 a2_1 a2_2 a2_3 a2_4)) = some r := by first | (rw [hy146]; with_reducible exact H) | (have H2_ := (Option.bind_some _ _).symm.trans H; rw [hy146]; with_reducible exact H2_) | (have H2_ := (Option.bind_some _ _).symm.trans H; with_reducible exact H2_) | with_reducible exact H | (rw [hy146]; exact H) | exact H
              have Ny146 := Aside0.mk hy146
              clear hy146
              replace H := Option.bind_eq_some_iff.mp H
              obtain ⟨t149, A230, H⟩ := H
              replace H : (laws_FnSemverEqualWild.j1 kj4 a1 a3 (!t149) a0_0 a0_1 a0_2 a0_3 a0_4 a2_0 a2_1 a2_2 a2_3 a2_4) = some r := H
              have A23 := Aside0.mk A230
              clear A230
              have H' := Aside0.mk H
              clear H
              have hnb24 := NB143_142.out
              have hnc24 := NB142_143.out
              have hcz25_0 : wc.cell? ⟨gb143, 0, none⟩ = some (.int .u64 a2_0) := (blk_cell BK143.out 0).trans rfl
              have hcz25_1 : wc.cell? ⟨gb143, 1, none⟩ = some (.int .u64 a2_1) := (blk_cell BK143.out 1).trans rfl
              have hcz25_2 : wc.cell? ⟨gb143, 2, none⟩ = some (.int .u64 a2_2) := (blk_cell BK143.out 2).trans rfl
              have hcz25_3 : wc.cell? ⟨gb143, 3, none⟩ = some (.string a2_3) := (blk_cell BK143.out 3).trans rfl
              have hcz25_4 : wc.cell? ⟨gb143, 4, none⟩ = some (.string a2_4) := (blk_cell BK143.out 4).trans rfl
              have hfz25_0 := blk_frozen BK143.out 0
              have hfz25_1 := blk_frozen BK143.out 1
              have hfz25_2 := blk_frozen BK143.out 2
              have hfz25_3 := blk_frozen BK143.out 3
              have hfz25_4 := blk_frozen BK143.out 4
              go_wp2_with (first | ((with_reducible refine gate_dst (N := 26) rfl ?_); (try (refine gate_guard (by rfl) ?_; dsimp only)); refine Kd.R_lit k29 _ 29 ?hg (N := 26) ?hd (xs := ([(⟨a2_0, a2_1, a2_2, a2_3, a2_4⟩ : S29)] : List (S29))) (inner := [.int .u64 a2_0, .int .u64 a2_1, .int .u64 a2_2, .string a2_3, .string a2_4]) (ok := fun _ => True) (okp := fun _ => True) ?hr ?hp (fun _ hk => hk) trivial (Below.refl _ _) (Nat.le_refl _) (by simp) ?_; (case hd => rfl); (case hg => rfl); (case hr => first | (go_simp; done) | (go_simp; rfl)); (case hp => exact (Reps.c5 (show Kd.M k29 _ _ _ (⟨a2_0, a2_1, a2_2, a2_3, a2_4⟩ : S29) [.int .u64 a2_0, .int .u64 a2_1, .int .u64 a2_2, .string a2_3, .string a2_4] from (k29_mkM _ _ _ (⟨a2_0, a2_1, a2_2, a2_3, a2_4⟩ : S29) )) (Reps.none _ _))); intro v147 w26 ho27 hb hg_ hnew_; clear hg_ hnew_; (first | rw [← Ny146.out] at ho27 | (simp only [Int.reduceToNat] at ho27; rw [← Ny146.out] at ho27)); have n0_ := Aside0.mk (Kd.R_lower (Kd.R_newB (Kd.R_newB ho27 (g := gb142) (o := .cells #[.int .u64 a0_0, .int .u64 a0_1, .int .u64 a0_2, .string a0_3, .string a0_4] 29 (0, 0)) (by (with_reducible repeat (first | refine blk_drewN ?_ _ | refine blk_drew ?_ | refine blk_alloc ?_ _)); exact BK142.out)) (g := gb143) (o := .cells #[.int .u64 a2_0, .int .u64 a2_1, .int .u64 a2_2, .string a2_3, .string a2_4] 29 (0, 0)) (by (with_reducible repeat (first | refine blk_drewN ?_ _ | refine blk_drew ?_ | refine blk_alloc ?_ _)); exact BK143.out)) (below_size (by repeat (first | (with_reducible first | exact HB.out | apply below_alloc | apply pw_below_drewN | apply below_drew1 | refine below_set ?_ GE142.out | refine below_set ?_ GE143.out) | exact HB.out)))); have n1_ := Aside0.mk (blk_below (g := gb142) (o := .cells #[.int .u64 a0_0, .int .u64 a0_1, .int .u64 a0_2, .string a0_3, .string a0_4] 29 (0, 0)) (by (with_reducible repeat (first | refine blk_drewN ?_ _ | refine blk_drew ?_ | refine blk_alloc ?_ _)); exact BK142.out) hb); have n2_ := Aside0.mk (blk_below (g := gb143) (o := .cells #[.int .u64 a2_0, .int .u64 a2_1, .int .u64 a2_2, .string a2_3, .string a2_4] 29 (0, 0)) (by (with_reducible repeat (first | refine blk_drewN ?_ _ | refine blk_drew ?_ | refine blk_alloc ?_ _)); exact BK143.out) hb); have n3_ := Aside0.mk (below_step (by repeat (first | (with_reducible first | exact HB.out | apply below_alloc | apply pw_below_drewN | apply below_drew1 | refine below_set ?_ GE142.out | refine below_set ?_ GE143.out) | exact HB.out)) hb); clear BK142; clear BK143; clear HB; have HO148 := n0_; have BK142 := n1_; have BK143 := n2_; have HB := n3_; clear n0_ n1_ n2_ n3_; clear hb ho27; obtain ⟨Ao28, co28, eo28⟩ := Kd.R_slice HO148.out; subst eo28) | (go_at_call 26; (with_reducible refine (laws_svGood.calls kj4 _ _ y146 t149 _ ?side1 ?side2 A23.out).mono ?_); (case side1 => repeat (first | exact (Kd.R_reads' HO148.out).2.2 | (with_reducible refine Kd.C_alloc ?_ _) | (with_reducible refine Kd.C_drewN ?_ _) | (with_reducible refine Kd.C_drew ?_))); (case side2 => exact (Kd.R_reads' HO148.out).2.1); rintro e w29 ⟨rfl, hb⟩; have n0_ := Aside0.mk (Kd.R_below (by (with_reducible repeat (first | apply Kd.R_alloc | apply Kd.R_drewN | apply Kd.R_drew)); exact HO148.out) hb); have n1_ := Aside0.mk (blk_below (g := gb142) (o := .cells #[.int .u64 a0_0, .int .u64 a0_1, .int .u64 a0_2, .string a0_3, .string a0_4] 29 (0, 0)) (by (with_reducible repeat (first | refine blk_drewN ?_ _ | refine blk_drew ?_ | refine blk_alloc ?_ _)); exact BK142.out) hb); have n2_ := Aside0.mk (blk_below (g := gb143) (o := .cells #[.int .u64 a2_0, .int .u64 a2_1, .int .u64 a2_2, .string a2_3, .string a2_4] 29 (0, 0)) (by (with_reducible repeat (first | refine blk_drewN ?_ _ | refine blk_drew ?_ | refine blk_alloc ?_ _)); exact BK143.out) hb); have n3_ := Aside0.mk (below_step (by repeat (first | (with_reducible first | exact HB.out | apply below_alloc | apply pw_below_drewN | apply below_drew1 | refine below_set ?_ GE142.out | refine below_set ?_ GE143.out) | exact HB.out)) hb); clear HO148; clear BK142; clear BK143; clear HB; have HO148 := n0_; have BK142 := n1_; have BK143 := n2_; have HB := n3_; clear n0_ n1_ n2_ n3_; (try clear hb); (try clear hb2); (try clear hk); (try clear hi)))
              go_meet
              case rel => exact ⟨_, (!t149), (by first | rfl | (simp; done) | (simp [*]; done)), H', ⟨by have := HJ4.out; first | omega | exact Nat.le_refl _⟩, ⟨by (with_reducible repeat (first | refine blk_drewN ?_ _ | refine blk_drew ?_ | refine blk_alloc ?_ _)); exact BK142.out⟩, ⟨by (with_reducible repeat (first | refine blk_drewN ?_ _ | refine blk_drew ?_ | refine blk_alloc ?_ _)); exact BK143.out⟩, ⟨by repeat (first | (with_reducible first | exact HB.out | apply below_alloc | apply pw_below_drewN | apply below_drew1 | refine below_set ?_ GE142.out | refine below_set ?_ GE143.out) | exact HB.out)⟩⟩
        case rest =>
          clear HC20
          try clear c1
          try clear c2
          try clear p2
          try clear c5
          try clear c9
          try clear c11
          try clear c13
          try clear c16
          try clear c19
          try clear c21
          try clear c21b0
          try clear c22
          try clear c22b0
          try clear c24
          try clear c25
          try clear hcz12_0
          try clear hcz12_1
          try clear hcz12_2
          try clear hcz12_3
          try clear hcz12_4
          try clear hcz14_0
          try clear hcz14_1
          try clear hcz14_2
          try clear hcz14_3
          try clear hcz14_4
          try clear hcz17_0
          try clear hcz17_1
          try clear hcz17_2
          try clear hcz17_3
          try clear hcz17_4
          try clear hcz25_0
          try clear hcz25_1
          try clear hcz25_2
          try clear hcz25_3
          try clear hcz25_4
          try clear hfz12_0
          try clear hfz12_1
          try clear hfz12_2
          try clear hfz12_3
          try clear hfz12_4
          try clear hfz14_0
          try clear hfz14_1
          try clear hfz14_2
          try clear hfz14_3
          try clear hfz14_4
          try clear hfz17_0
          try clear hfz17_1
          try clear hfz17_2
          try clear hfz17_3
          try clear hfz17_4
          try clear hfz25_0
          try clear hfz25_1
          try clear hfz25_2
          try clear hfz25_3
          try clear hfz25_4
          try clear p2
          obtain ⟨kq, x29_19, rfl, HA, HJ19, BK142, BK143, HB⟩ := hcut
          cases kq with
          | zero => exact absurd HA.out (by simp [laws_FnSemverEqualWild.j1])
          | succ kj19 =>
            have H := HA.out
            clear HA
            simp only [laws_FnSemverEqualWild.j1] at H
            by_cases c30 : x29_19 = true
            · subst c30
              have H1 : (some true) = some r := by rw [if_pos rfl] at H; exact H
              clear H
              have H := H1
              clear H1
              obtain rfl := Option.some.inj H
              go_wp2
              go_ret
              exact ⟨by first | rfl | (simp [errW_none, errW_some] <;> rfl) | (simp [*, errW_none, errW_some] <;> rfl), by repeat (first | (with_reducible first | exact HB.out | apply below_alloc | apply pw_below_drewN | apply below_drew1 | refine below_set ?_ GE142.out | refine below_set ?_ GE143.out) | exact HB.out)⟩
            · replace c30 := Bool.eq_false_iff.mpr c30
              subst c30
              have H1 : ((Hand.stTerm.f 0 a0_0 a0_1 a0_2 a0_3 a0_4 a1).bind fun bt150 => (if a1 = 0 then (laws_FnSemverEqualWild.j2 kj19 a1 a3 a0_0 a0_1 a0_2 a0_3 a0_4 a2_0 a2_1 a2_2 a2_3 a2_4 bt150.1 bt150.2.1 0 bt150.2.2.2.1 bt150.2.2.2.2.1 bt150.2.2.2.2.2) else (laws_FnSemverEqualWild.j2 kj19 a1 a3 a0_0 a0_1 a0_2 a0_3 a0_4 a2_0 a2_1 a2_2 a2_3 a2_4 bt150.1 bt150.2.1 bt150.2.2.1 bt150.2.2.2.1 bt150.2.2.2.2.1 bt150.2.2.2.2.2))) = some r := by rw [if_neg (show ¬ (false = true) by decide)] at H; exact H
              clear H
              have H := H1
              clear H1
              replace H := Option.bind_eq_some_iff.mp H
              obtain ⟨⟨t150, t151, t152, t153, t154, t155⟩, A310, H⟩ := H
              replace H : (if a1 = 0 then (laws_FnSemverEqualWild.j2 kj19 a1 a3 a0_0 a0_1 a0_2 a0_3 a0_4 a2_0 a2_1 a2_2 a2_3 a2_4 t150 t151 0 t153 t154 t155) else (laws_FnSemverEqualWild.j2 kj19 a1 a3 a0_0 a0_1 a0_2 a0_3 a0_4 a2_0 a2_1 a2_2 a2_3 a2_4 t150 t151 t152 t153 t154 t155)) = some r := H
              have A31 := Aside0.mk A310
              clear A310
              have HC32 := Aside0.mk H
              clear H
              have hnb33 := NB142_143.out
              have hnc33 := NB143_142.out
              have hcz34_0 : wc.cell? ⟨gb142, 0, none⟩ = some (.int .u64 a0_0) := (blk_cell BK142.out 0).trans rfl
              have hcz34_1 : wc.cell? ⟨gb142, 1, none⟩ = some (.int .u64 a0_1) := (blk_cell BK142.out 1).trans rfl
              have hcz34_2 : wc.cell? ⟨gb142, 2, none⟩ = some (.int .u64 a0_2) := (blk_cell BK142.out 2).trans rfl
              have hcz34_3 : wc.cell? ⟨gb142, 3, none⟩ = some (.string a0_3) := (blk_cell BK142.out 3).trans rfl
              have hcz34_4 : wc.cell? ⟨gb142, 4, none⟩ = some (.string a0_4) := (blk_cell BK142.out 4).trans rfl
              have hfz34_0 := blk_frozen BK142.out 0
              have hfz34_1 := blk_frozen BK142.out 1
              have hfz34_2 := blk_frozen BK142.out 2
              have hfz34_3 := blk_frozen BK142.out 3
              have hfz34_4 := blk_frozen BK142.out 4
              go_upto_if 34 with (first | ((with_reducible refine gate_callee (f := 40) rfl ?_); refine goesL_ (some 32) rfl rfl Tryd.func40 (by kernel_rfl) rfl #[.int .i64 0, .agg #[.int .u64 a0_0, .int .u64 a0_1, .int .u64 a0_2, .string a0_3, .string a0_4], .int .i64 a1] rfl (by (try simp only [List.map_toArray, List.map_cons, List.map_nil]); first | done | rfl | (simp only [List.length_drop, List.length_take]; rfl)) ?_; (with_reducible refine (Hand.stTerm.calls 0 a0_0 a0_1 a0_2 a0_3 a0_4 a1 t150 t151 t152 t153 t154 t155 _ A31.out).mono ?_); rintro e w35 ⟨rfl, hb⟩; refine ⟨_, rfl, ?_⟩; have n0_ := Aside0.mk (blk_below (g := gb142) (o := .cells #[.int .u64 a0_0, .int .u64 a0_1, .int .u64 a0_2, .string a0_3, .string a0_4] 29 (0, 0)) (by (with_reducible repeat (first | refine blk_drewN ?_ _ | refine blk_drew ?_ | refine blk_alloc ?_ _)); exact BK142.out) hb); have n1_ := Aside0.mk (blk_below (g := gb143) (o := .cells #[.int .u64 a2_0, .int .u64 a2_1, .int .u64 a2_2, .string a2_3, .string a2_4] 29 (0, 0)) (by (with_reducible repeat (first | refine blk_drewN ?_ _ | refine blk_drew ?_ | refine blk_alloc ?_ _)); exact BK143.out) hb); have n2_ := Aside0.mk (below_step (by repeat (first | (with_reducible first | exact HB.out | apply below_alloc | apply pw_below_drewN | apply below_drew1 | refine below_set ?_ GE142.out | refine below_set ?_ GE143.out) | exact HB.out)) hb); clear BK142; clear BK143; clear HB; have BK142 := n0_; have BK143 := n1_; have HB := n2_; clear n0_ n1_ n2_; (try clear hb); (try clear hb2); (try clear hk); (try clear hi)) | ((with_reducible refine gate_dst (N := 9) rfl ?_); (try (refine gate_guard (by rfl) ?_; dsimp only)); refine box_event ?hg (N := 9) ?hd (cs := #[.int .i64 0, .int .i64 0, .int .u64 0, .int .u64 0, .int .u64 0, .string (⟨#[]⟩ : ByteArray)]) (t := 42) ?hr ?_; (case hd => rfl); (case hg => rfl); (case hr => first | (go_simp; done) | (go_simp; rfl)); intro gb156 hg w36 hbox hb; have n0_ := Aside0.mk (blk_below (g := gb142) (o := .cells #[.int .u64 a0_0, .int .u64 a0_1, .int .u64 a0_2, .string a0_3, .string a0_4] 29 (0, 0)) (by (with_reducible repeat (first | refine blk_drewN ?_ _ | refine blk_drew ?_ | refine blk_alloc ?_ _)); exact BK142.out) hb); have n1_ := Aside0.mk (blk_below (g := gb143) (o := .cells #[.int .u64 a2_0, .int .u64 a2_1, .int .u64 a2_2, .string a2_3, .string a2_4] 29 (0, 0)) (by (with_reducible repeat (first | refine blk_drewN ?_ _ | refine blk_drew ?_ | refine blk_alloc ?_ _)); exact BK143.out) hb); have n2_ := Aside0.mk (below_step (by repeat (first | (with_reducible first | exact HB.out | apply below_alloc | apply pw_below_drewN | apply below_drew1 | refine below_set ?_ GE142.out | refine below_set ?_ GE143.out) | exact HB.out)) hb); have n3_ := Aside0.mk (hbox); have n4_ := Aside0.mk ((by rw [hg]; exact (below_size (by repeat (first | (with_reducible first | exact HB.out | apply below_alloc | apply pw_below_drewN | apply below_drew1 | refine below_set ?_ GE142.out | refine below_set ?_ GE143.out) | exact HB.out))) : w.heap.size ≤ gb156)); have n5_ := Aside0.mk ((by rw [hg]; exact (below_size (by repeat (first | (with_reducible first | exact HB.out | apply below_alloc | apply pw_below_drewN | apply below_drew1 | refine below_set ?_ GE142.out | refine below_set ?_ GE143.out) | exact HB.out))) : w.heap.size ≤ gb156)); have n6_ := Aside0.mk ((by rw [hg]; exact Nat.ne_of_lt (blk_lt (g := gb142) (o := .cells #[.int .u64 a0_0, .int .u64 a0_1, .int .u64 a0_2, .string a0_3, .string a0_4] 29 (0, 0)) (by (with_reducible repeat (first | refine blk_drewN ?_ _ | refine blk_drew ?_ | refine blk_alloc ?_ _)); exact BK142.out)) : gb142 ≠ gb156)); have n7_ := Aside0.mk ((by rw [hg]; exact Nat.ne_of_gt (blk_lt (g := gb142) (o := .cells #[.int .u64 a0_0, .int .u64 a0_1, .int .u64 a0_2, .string a0_3, .string a0_4] 29 (0, 0)) (by (with_reducible repeat (first | refine blk_drewN ?_ _ | refine blk_drew ?_ | refine blk_alloc ?_ _)); exact BK142.out)) : gb156 ≠ gb142)); have n8_ := Aside0.mk ((by rw [hg]; exact Nat.ne_of_lt (blk_lt (g := gb143) (o := .cells #[.int .u64 a2_0, .int .u64 a2_1, .int .u64 a2_2, .string a2_3, .string a2_4] 29 (0, 0)) (by (with_reducible repeat (first | refine blk_drewN ?_ _ | refine blk_drew ?_ | refine blk_alloc ?_ _)); exact BK143.out)) : gb143 ≠ gb156)); have n9_ := Aside0.mk ((by rw [hg]; exact Nat.ne_of_gt (blk_lt (g := gb143) (o := .cells #[.int .u64 a2_0, .int .u64 a2_1, .int .u64 a2_2, .string a2_3, .string a2_4] 29 (0, 0)) (by (with_reducible repeat (first | refine blk_drewN ?_ _ | refine blk_drew ?_ | refine blk_alloc ?_ _)); exact BK143.out)) : gb156 ≠ gb143)); clear BK142; clear BK143; clear HB; have BK142 := n0_; have BK143 := n1_; have HB := n2_; have BK156 := n3_; have GW156 := n4_; have GE156 := n5_; have NB142_156 := n6_; have NB156_142 := n7_; have NB143_156 := n8_; have NB156_143 := n9_; clear n0_ n1_ n2_ n3_ n4_ n5_ n6_ n7_ n8_ n9_; clear hb hbox hg; have hnb37 := NB156_142.out; have hnc37 := NB142_156.out; have hnb38 := NB156_143.out; have hnc38 := NB143_156.out; have hcz39_0 : w36.cell? ⟨gb156, 0, none⟩ = some (.int .i64 0) := (blk_cell BK156.out 0).trans rfl; have hcz39_1 : w36.cell? ⟨gb156, 1, none⟩ = some (.int .i64 0) := (blk_cell BK156.out 1).trans rfl; have hcz39_2 : w36.cell? ⟨gb156, 2, none⟩ = some (.int .u64 0) := (blk_cell BK156.out 2).trans rfl; have hcz39_3 : w36.cell? ⟨gb156, 3, none⟩ = some (.int .u64 0) := (blk_cell BK156.out 3).trans rfl; have hcz39_4 : w36.cell? ⟨gb156, 4, none⟩ = some (.int .u64 0) := (blk_cell BK156.out 4).trans rfl; have hcz39_5 : w36.cell? ⟨gb156, 5, none⟩ = some (.string (⟨#[]⟩ : ByteArray)) := (blk_cell BK156.out 5).trans rfl; have hfz39_0 := blk_frozen BK156.out 0; have hfz39_1 := blk_frozen BK156.out 1; have hfz39_2 := blk_frozen BK156.out 2; have hfz39_3 := blk_frozen BK156.out 3; have hfz39_4 := blk_frozen BK156.out 4; have hfz39_5 := blk_frozen BK156.out 5))
              (try simp only [Act.put, List.setIfInBounds_toArray, List.set_cons_zero, List.set_cons_succ])
              go_cut [] (fun wc => ∃ (kq : Nat) (x157002_31 : Int), Aside0 (laws_FnSemverEqualWild.j2 kq a1 a3 a0_0 a0_1 a0_2 a0_3 a0_4 a2_0 a2_1 a2_2 a2_3 a2_4 t150 t151 x157002_31 t153 t154 t155 = some r) ∧ Aside0 (kq ≤ kj19) ∧ Aside0 (wc.heap[gb142]? = some (.cells #[.int .u64 a0_0, .int .u64 a0_1, .int .u64 a0_2, .string a0_3, .string a0_4] 29 (0, 0))) ∧ Aside0 (wc.heap[gb143]? = some (.cells #[.int .u64 a2_0, .int .u64 a2_1, .int .u64 a2_2, .string a2_3, .string a2_4] 29 (0, 0))) ∧ Aside0 (wc.heap[gb156]? = some (.cells #[.int .i64 t150, .int .i64 t151, .int .u64 x157002_31, .int .u64 t153, .int .u64 t154, .string t155] 42 (0, 0))) ∧ Aside0 (Below w.heap.size w wc))
              case first =>
                have H := HC32.out
                clear HC32
                by_cases c40 : a1 = 0
                · rw [if_pos c40] at H
                  have c40b0 : (a1 == 0) = true := beq_iff_eq.mpr c40
                  have c40b1 : (a1 != 0) = false := bne_eq_false_iff_eq.mpr c40
                  clear c40
                  (first | rw [c40b0] | (simp only [i64_w, i32_w]; rw [c40b0]) | skip)
                  have H' := Aside0.mk H
                  clear H
                  have hnb41 := NB156_142.out
                  have hnc41 := NB142_156.out
                  have hnb42 := NB156_143.out
                  have hnc42 := NB143_156.out
                  have hcz43_0 : w36.cell? ⟨gb156, 0, none⟩ = some (.int .i64 0) := (blk_cell BK156.out 0).trans rfl
                  have hcz43_1 : w36.cell? ⟨gb156, 1, none⟩ = some (.int .i64 0) := (blk_cell BK156.out 1).trans rfl
                  have hcz43_2 : w36.cell? ⟨gb156, 2, none⟩ = some (.int .u64 0) := (blk_cell BK156.out 2).trans rfl
                  have hcz43_3 : w36.cell? ⟨gb156, 3, none⟩ = some (.int .u64 0) := (blk_cell BK156.out 3).trans rfl
                  have hcz43_4 : w36.cell? ⟨gb156, 4, none⟩ = some (.int .u64 0) := (blk_cell BK156.out 4).trans rfl
                  have hcz43_5 : w36.cell? ⟨gb156, 5, none⟩ = some (.string (⟨#[]⟩ : ByteArray)) := (blk_cell BK156.out 5).trans rfl
                  have hfz43_0 := blk_frozen BK156.out 0
                  have hfz43_1 := blk_frozen BK156.out 1
                  have hfz43_2 := blk_frozen BK156.out 2
                  have hfz43_3 := blk_frozen BK156.out 3
                  have hfz43_4 := blk_frozen BK156.out 4
                  have hfz43_5 := blk_frozen BK156.out 5
                  go_wp2
                  go_meet
                  case rel => exact ⟨_, (0), H', ⟨by have := HJ4.out; have := HJ19.out; first | omega | exact Nat.le_refl _⟩, ⟨by (with_reducible repeat (first | refine blk_drewN ?_ _ | refine blk_drew ?_ | refine blk_alloc ?_ _)); refine blk_far ?_ NB142_156.out _; (with_reducible repeat (first | refine blk_drewN ?_ _ | refine blk_drew ?_ | refine blk_alloc ?_ _)); refine blk_far ?_ NB142_156.out _; (with_reducible repeat (first | refine blk_drewN ?_ _ | refine blk_drew ?_ | refine blk_alloc ?_ _)); refine blk_far ?_ NB142_156.out _; (with_reducible repeat (first | refine blk_drewN ?_ _ | refine blk_drew ?_ | refine blk_alloc ?_ _)); refine blk_far ?_ NB142_156.out _; (with_reducible repeat (first | refine blk_drewN ?_ _ | refine blk_drew ?_ | refine blk_alloc ?_ _)); refine blk_far ?_ NB142_156.out _; (with_reducible repeat (first | refine blk_drewN ?_ _ | refine blk_drew ?_ | refine blk_alloc ?_ _)); refine blk_far ?_ NB142_156.out _; (with_reducible repeat (first | refine blk_drewN ?_ _ | refine blk_drew ?_ | refine blk_alloc ?_ _)); refine blk_far ?_ NB142_156.out _; (with_reducible repeat (first | refine blk_drewN ?_ _ | refine blk_drew ?_ | refine blk_alloc ?_ _)); exact BK142.out⟩, ⟨by (with_reducible repeat (first | refine blk_drewN ?_ _ | refine blk_drew ?_ | refine blk_alloc ?_ _)); refine blk_far ?_ NB143_156.out _; (with_reducible repeat (first | refine blk_drewN ?_ _ | refine blk_drew ?_ | refine blk_alloc ?_ _)); refine blk_far ?_ NB143_156.out _; (with_reducible repeat (first | refine blk_drewN ?_ _ | refine blk_drew ?_ | refine blk_alloc ?_ _)); refine blk_far ?_ NB143_156.out _; (with_reducible repeat (first | refine blk_drewN ?_ _ | refine blk_drew ?_ | refine blk_alloc ?_ _)); refine blk_far ?_ NB143_156.out _; (with_reducible repeat (first | refine blk_drewN ?_ _ | refine blk_drew ?_ | refine blk_alloc ?_ _)); refine blk_far ?_ NB143_156.out _; (with_reducible repeat (first | refine blk_drewN ?_ _ | refine blk_drew ?_ | refine blk_alloc ?_ _)); refine blk_far ?_ NB143_156.out _; (with_reducible repeat (first | refine blk_drewN ?_ _ | refine blk_drew ?_ | refine blk_alloc ?_ _)); refine blk_far ?_ NB143_156.out _; (with_reducible repeat (first | refine blk_drewN ?_ _ | refine blk_drew ?_ | refine blk_alloc ?_ _)); exact BK143.out⟩, ⟨by (with_reducible repeat (first | refine blk_drewN ?_ _ | refine blk_drew ?_ | refine blk_alloc ?_ _)); refine blk_put (cs := #[.int .i64 t150, .int .i64 t151, .int .u64 t152, .int .u64 t153, .int .u64 t154, .string t155]) ?_ 2 _ rfl; (with_reducible repeat (first | refine blk_drewN ?_ _ | refine blk_drew ?_ | refine blk_alloc ?_ _)); refine blk_put (cs := #[.int .i64 t150, .int .i64 t151, .int .u64 t152, .int .u64 t153, .int .u64 t154, .string (⟨#[]⟩ : ByteArray)]) ?_ 5 _ rfl; (with_reducible repeat (first | refine blk_drewN ?_ _ | refine blk_drew ?_ | refine blk_alloc ?_ _)); refine blk_put (cs := #[.int .i64 t150, .int .i64 t151, .int .u64 t152, .int .u64 t153, .int .u64 0, .string (⟨#[]⟩ : ByteArray)]) ?_ 4 _ rfl; (with_reducible repeat (first | refine blk_drewN ?_ _ | refine blk_drew ?_ | refine blk_alloc ?_ _)); refine blk_put (cs := #[.int .i64 t150, .int .i64 t151, .int .u64 t152, .int .u64 0, .int .u64 0, .string (⟨#[]⟩ : ByteArray)]) ?_ 3 _ rfl; (with_reducible repeat (first | refine blk_drewN ?_ _ | refine blk_drew ?_ | refine blk_alloc ?_ _)); refine blk_put (cs := #[.int .i64 t150, .int .i64 t151, .int .u64 0, .int .u64 0, .int .u64 0, .string (⟨#[]⟩ : ByteArray)]) ?_ 2 _ rfl; (with_reducible repeat (first | refine blk_drewN ?_ _ | refine blk_drew ?_ | refine blk_alloc ?_ _)); refine blk_put (cs := #[.int .i64 t150, .int .i64 0, .int .u64 0, .int .u64 0, .int .u64 0, .string (⟨#[]⟩ : ByteArray)]) ?_ 1 _ rfl; (with_reducible repeat (first | refine blk_drewN ?_ _ | refine blk_drew ?_ | refine blk_alloc ?_ _)); refine blk_put (cs := #[.int .i64 0, .int .i64 0, .int .u64 0, .int .u64 0, .int .u64 0, .string (⟨#[]⟩ : ByteArray)]) ?_ 0 _ rfl; (with_reducible repeat (first | refine blk_drewN ?_ _ | refine blk_drew ?_ | refine blk_alloc ?_ _)); exact BK156.out⟩, ⟨by repeat (first | (with_reducible first | exact HB.out | apply below_alloc | apply pw_below_drewN | apply below_drew1 | refine below_set ?_ GE142.out | refine below_set ?_ GE143.out | refine below_set ?_ GE156.out) | exact HB.out)⟩⟩
                · rw [if_neg c40] at H
                  have c40b0 : (a1 == 0) = false := beq_eq_false_iff_ne.mpr c40
                  have c40b1 : (a1 != 0) = true := bne_iff_ne.mpr c40
                  (first | rw [c40b0] | (simp only [i64_w, i32_w]; rw [c40b0]) | skip)
                  have H' := Aside0.mk H
                  clear H
                  go_wp2
                  go_meet
                  case rel => exact ⟨_, (t152), H', ⟨by have := HJ4.out; have := HJ19.out; first | omega | exact Nat.le_refl _⟩, ⟨by (with_reducible repeat (first | refine blk_drewN ?_ _ | refine blk_drew ?_ | refine blk_alloc ?_ _)); refine blk_far ?_ NB142_156.out _; (with_reducible repeat (first | refine blk_drewN ?_ _ | refine blk_drew ?_ | refine blk_alloc ?_ _)); refine blk_far ?_ NB142_156.out _; (with_reducible repeat (first | refine blk_drewN ?_ _ | refine blk_drew ?_ | refine blk_alloc ?_ _)); refine blk_far ?_ NB142_156.out _; (with_reducible repeat (first | refine blk_drewN ?_ _ | refine blk_drew ?_ | refine blk_alloc ?_ _)); refine blk_far ?_ NB142_156.out _; (with_reducible repeat (first | refine blk_drewN ?_ _ | refine blk_drew ?_ | refine blk_alloc ?_ _)); refine blk_far ?_ NB142_156.out _; (with_reducible repeat (first | refine blk_drewN ?_ _ | refine blk_drew ?_ | refine blk_alloc ?_ _)); refine blk_far ?_ NB142_156.out _; (with_reducible repeat (first | refine blk_drewN ?_ _ | refine blk_drew ?_ | refine blk_alloc ?_ _)); exact BK142.out⟩, ⟨by (with_reducible repeat (first | refine blk_drewN ?_ _ | refine blk_drew ?_ | refine blk_alloc ?_ _)); refine blk_far ?_ NB143_156.out _; (with_reducible repeat (first | refine blk_drewN ?_ _ | refine blk_drew ?_ | refine blk_alloc ?_ _)); refine blk_far ?_ NB143_156.out _; (with_reducible repeat (first | refine blk_drewN ?_ _ | refine blk_drew ?_ | refine blk_alloc ?_ _)); refine blk_far ?_ NB143_156.out _; (with_reducible repeat (first | refine blk_drewN ?_ _ | refine blk_drew ?_ | refine blk_alloc ?_ _)); refine blk_far ?_ NB143_156.out _; (with_reducible repeat (first | refine blk_drewN ?_ _ | refine blk_drew ?_ | refine blk_alloc ?_ _)); refine blk_far ?_ NB143_156.out _; (with_reducible repeat (first | refine blk_drewN ?_ _ | refine blk_drew ?_ | refine blk_alloc ?_ _)); refine blk_far ?_ NB143_156.out _; (with_reducible repeat (first | refine blk_drewN ?_ _ | refine blk_drew ?_ | refine blk_alloc ?_ _)); exact BK143.out⟩, ⟨by (with_reducible repeat (first | refine blk_drewN ?_ _ | refine blk_drew ?_ | refine blk_alloc ?_ _)); refine blk_put (cs := #[.int .i64 t150, .int .i64 t151, .int .u64 t152, .int .u64 t153, .int .u64 t154, .string (⟨#[]⟩ : ByteArray)]) ?_ 5 _ rfl; (with_reducible repeat (first | refine blk_drewN ?_ _ | refine blk_drew ?_ | refine blk_alloc ?_ _)); refine blk_put (cs := #[.int .i64 t150, .int .i64 t151, .int .u64 t152, .int .u64 t153, .int .u64 0, .string (⟨#[]⟩ : ByteArray)]) ?_ 4 _ rfl; (with_reducible repeat (first | refine blk_drewN ?_ _ | refine blk_drew ?_ | refine blk_alloc ?_ _)); refine blk_put (cs := #[.int .i64 t150, .int .i64 t151, .int .u64 t152, .int .u64 0, .int .u64 0, .string (⟨#[]⟩ : ByteArray)]) ?_ 3 _ rfl; (with_reducible repeat (first | refine blk_drewN ?_ _ | refine blk_drew ?_ | refine blk_alloc ?_ _)); refine blk_put (cs := #[.int .i64 t150, .int .i64 t151, .int .u64 0, .int .u64 0, .int .u64 0, .string (⟨#[]⟩ : ByteArray)]) ?_ 2 _ rfl; (with_reducible repeat (first | refine blk_drewN ?_ _ | refine blk_drew ?_ | refine blk_alloc ?_ _)); refine blk_put (cs := #[.int .i64 t150, .int .i64 0, .int .u64 0, .int .u64 0, .int .u64 0, .string (⟨#[]⟩ : ByteArray)]) ?_ 1 _ rfl; (with_reducible repeat (first | refine blk_drewN ?_ _ | refine blk_drew ?_ | refine blk_alloc ?_ _)); refine blk_put (cs := #[.int .i64 0, .int .i64 0, .int .u64 0, .int .u64 0, .int .u64 0, .string (⟨#[]⟩ : ByteArray)]) ?_ 0 _ rfl; (with_reducible repeat (first | refine blk_drewN ?_ _ | refine blk_drew ?_ | refine blk_alloc ?_ _)); exact BK156.out⟩, ⟨by repeat (first | (with_reducible first | exact HB.out | apply below_alloc | apply pw_below_drewN | apply below_drew1 | refine below_set ?_ GE142.out | refine below_set ?_ GE143.out | refine below_set ?_ GE156.out) | exact HB.out)⟩⟩
              case rest =>
                clear HC32
                try clear c1
                try clear c2
                try clear p2
                try clear c3
                try clear c4
                try clear c5
                try clear c9
                try clear c11
                try clear c13
                try clear c16
                try clear c19
                try clear c21
                try clear c21b0
                try clear c22
                try clear c22b0
                try clear c24
                try clear c25
                try clear c30
                try clear c33
                try clear c37
                try clear c38
                try clear c40
                try clear c40b0
                try clear c40b1
                try clear c41
                try clear c42
                try clear hcz12_0
                try clear hcz12_1
                try clear hcz12_2
                try clear hcz12_3
                try clear hcz12_4
                try clear hcz14_0
                try clear hcz14_1
                try clear hcz14_2
                try clear hcz14_3
                try clear hcz14_4
                try clear hcz17_0
                try clear hcz17_1
                try clear hcz17_2
                try clear hcz17_3
                try clear hcz17_4
                try clear hcz25_0
                try clear hcz25_1
                try clear hcz25_2
                try clear hcz25_3
                try clear hcz25_4
                try clear hcz34_0
                try clear hcz34_1
                try clear hcz34_2
                try clear hcz34_3
                try clear hcz34_4
                try clear hcz39_0
                try clear hcz39_1
                try clear hcz39_2
                try clear hcz39_3
                try clear hcz39_4
                try clear hcz39_5
                try clear hcz43_0
                try clear hcz43_1
                try clear hcz43_2
                try clear hcz43_3
                try clear hcz43_4
                try clear hcz43_5
                try clear hfz12_0
                try clear hfz12_1
                try clear hfz12_2
                try clear hfz12_3
                try clear hfz12_4
                try clear hfz14_0
                try clear hfz14_1
                try clear hfz14_2
                try clear hfz14_3
                try clear hfz14_4
                try clear hfz17_0
                try clear hfz17_1
                try clear hfz17_2
                try clear hfz17_3
                try clear hfz17_4
                try clear hfz25_0
                try clear hfz25_1
                try clear hfz25_2
                try clear hfz25_3
                try clear hfz25_4
                try clear hfz34_0
                try clear hfz34_1
                try clear hfz34_2
                try clear hfz34_3
                try clear hfz34_4
                try clear hfz39_0
                try clear hfz39_1
                try clear hfz39_2
                try clear hfz39_3
                try clear hfz39_4
                try clear hfz39_5
                try clear hfz43_0
                try clear hfz43_1
                try clear hfz43_2
                try clear hfz43_3
                try clear hfz43_4
                try clear hfz43_5
                try clear p2
                obtain ⟨kq, x157002_31, HA, HJ31, BK142, BK143, BK156, HB⟩ := hcut
                cases kq with
                | zero => exact absurd HA.out (by simp [laws_FnSemverEqualWild.j2])
                | succ kj31 =>
                  have H := HA.out
                  clear HA
                  simp only [laws_FnSemverEqualWild.j2] at H
                  replace H := Option.bind_eq_some_iff.mp H
                  obtain ⟨t157, A440, H⟩ := H
                  replace H : ((Hand.TildeHolds.f t150 t151 x157002_31 t153 t154 t155 a2_0 a2_1 a2_2 a2_3 a2_4 a3).bind fun t158 => (if (t157 == t158) = true then ((laws_scFirst.f a0_0 a0_1 a0_2 a0_3 a0_4 a1).bind fun bt159 => ((Hand.EqualHolds.f t150 t151 x157002_31 t153 t154 t155 bt159.1 bt159.2.1 bt159.2.2.1 bt159.2.2.2.1 bt159.2.2.2.2 a3).bind fun t164 => (some t164))) else (some false))) = some r := H
                  have A44 := Aside0.mk A440
                  clear A440
                  replace H := Option.bind_eq_some_iff.mp H
                  obtain ⟨t158, A450, H⟩ := H
                  replace H : (if (t157 == t158) = true then ((laws_scFirst.f a0_0 a0_1 a0_2 a0_3 a0_4 a1).bind fun bt159 => ((Hand.EqualHolds.f t150 t151 x157002_31 t153 t154 t155 bt159.1 bt159.2.1 bt159.2.2.1 bt159.2.2.2.1 bt159.2.2.2.2 a3).bind fun t164 => (some t164))) else (some false)) = some r := H
                  have A45 := Aside0.mk A450
                  clear A450
                  by_cases c46 : (t157 == t158) = true
                  · rw [if_pos c46] at H
                    have c46b0 : (t157 == t158) = true := c46
                    (try (have c46b1 : decide (t157 = t158) = true := by simpa using c46))
                    (try (have c46b2 : (t157 == t158) = true := by simpa using c46))
                    clear c46
                    replace H := Option.bind_eq_some_iff.mp H
                    obtain ⟨⟨t159, t160, t161, t162, t163⟩, A470, H⟩ := H
                    replace H : ((Hand.EqualHolds.f t150 t151 x157002_31 t153 t154 t155 t159 t160 t161 t162 t163 a3).bind fun t164 => (some t164)) = some r := H
                    have A47 := Aside0.mk A470
                    clear A470
                    replace H := Option.bind_eq_some_iff.mp H
                    obtain ⟨t164, A480, H⟩ := H
                    replace H : (some t164) = some r := H
                    have A48 := Aside0.mk A480
                    clear A480
                    obtain rfl := Option.some.inj H
                    try go_wp2
                    have n0_ := Aside0.mk (blk_drew BK142.out)
                    have n1_ := Aside0.mk (blk_drew BK143.out)
                    have n2_ := Aside0.mk (blk_drew BK156.out)
                    have n3_ := Aside0.mk (below_drew1 HB.out)
                    clear BK142
                    clear BK143
                    clear BK156
                    clear HB
                    have BK142 := n0_
                    have BK143 := n1_
                    have BK156 := n2_
                    have HB := n3_
                    clear n0_ n1_ n2_ n3_
                    refine start_ (n := 18) (S := fun w' => w'.cell? ⟨gb156, 0, none⟩ = some (.int .i64 t150) ∧ w'.cell? ⟨gb156, 1, none⟩ = some (.int .i64 t151) ∧ w'.cell? ⟨gb156, 2, none⟩ = some (.int .u64 x157002_31) ∧ w'.cell? ⟨gb156, 3, none⟩ = some (.int .u64 t153) ∧ w'.cell? ⟨gb156, 4, none⟩ = some (.int .u64 t154) ∧ w'.cell? ⟨gb156, 5, none⟩ = some (.string t155) ∧ w'.cell? ⟨gb143, 0, none⟩ = some (.int .u64 a2_0) ∧ w'.cell? ⟨gb143, 1, none⟩ = some (.int .u64 a2_1) ∧ w'.cell? ⟨gb143, 2, none⟩ = some (.int .u64 a2_2) ∧ w'.cell? ⟨gb143, 3, none⟩ = some (.string a2_3) ∧ w'.cell? ⟨gb143, 4, none⟩ = some (.string a2_4) ∧ w'.cell? ⟨gb142, 0, none⟩ = some (.int .u64 a0_0) ∧ w'.cell? ⟨gb142, 1, none⟩ = some (.int .u64 a0_1) ∧ w'.cell? ⟨gb142, 2, none⟩ = some (.int .u64 a0_2) ∧ w'.cell? ⟨gb142, 3, none⟩ = some (.string a0_3) ∧ w'.cell? ⟨gb142, 4, none⟩ = some (.string a0_4)) (ds := []) #[false, false, false, false, false, false, false, false, false, false, false, false, false, false, false, false, false, false] (by kernel_rfl) rfl rfl ⟨(blk_cell BK156.out 0).trans rfl, (blk_cell BK156.out 1).trans rfl, (blk_cell BK156.out 2).trans rfl, (blk_cell BK156.out 3).trans rfl, (blk_cell BK156.out 4).trans rfl, (blk_cell BK156.out 5).trans rfl, (blk_cell BK143.out 0).trans rfl, (blk_cell BK143.out 1).trans rfl, (blk_cell BK143.out 2).trans rfl, (blk_cell BK143.out 3).trans rfl, (blk_cell BK143.out 4).trans rfl, (blk_cell BK142.out 0).trans rfl, (blk_cell BK142.out 1).trans rfl, (blk_cell BK142.out 2).trans rfl, (blk_cell BK142.out 3).trans rfl, (blk_cell BK142.out 4).trans rfl⟩ (fun hHeld => ?_); refine with_tabW laws_FnSemverEqualWild.tab8 laws_FnSemverEqualWild.bits8 (fun HT_ HW_ => ?_)
                    generalize wc.drew = w49 at BK142 BK143 BK156 HB hHeld ⊢
                    refine pure_ (i := 2) (N := some 38) (v := ?_) (a' := ?_) #[false, false, true, false, false, false, false, false, false, false, false, false, false, false, false, false, false, false] rfl rfl (any_of HT_.out (by kernel_rfl)) (fun _ _ _ h => h) (Or.inl ⟨by rfl, ?_⟩) ?_ ?_
                    rotate_left
                    · intro w'
                      go_simp
                      with_reducible rfl
                    rotate_left
                    · simp only [Act.put, List.setIfInBounds_toArray, List.set_cons_zero, List.set_cons_succ, i64_w, i32_w]
                      rfl
                    refine pure_ (i := 6) (N := some 42) (v := ?_) (a' := ?_) #[false, false, true, false, false, false, true, false, false, false, false, false, false, false, false, false, false, false] rfl rfl (any_of HT_.out (by kernel_rfl)) (fun _ _ _ h => h) (Or.inl ⟨by rfl, ?_⟩) ?_ ?_
                    rotate_left
                    · intro w'
                      go_simp
                      with_reducible rfl
                    rotate_left
                    · simp only [Act.put, List.setIfInBounds_toArray, List.set_cons_zero, List.set_cons_succ, i64_w, i32_w]
                      rfl
                    refine take_ (i := 0) (N := some 36) (v := ?_) (a' := ?_) #[true, false, true, false, false, false, true, false, false, false, false, false, false, false, false, false, false, false] rfl rfl (take_ofW HT_.out HW_.out (by kernel_rfl)) (fun _ _ _ h => h) (Or.inl ⟨by rfl, ?_⟩) hHeld ?_ ?_
                    rotate_left
                    · rintro w' ⟨s0, s1, s2, s3, s4, s5, s6, s7, s8, s9, s10, s11, s12, s13, s14, s15⟩
                      go_simp
                      with_reducible rfl
                    rotate_left
                    · simp only [Act.put, List.setIfInBounds_toArray, List.set_cons_zero, List.set_cons_succ, i64_w, i32_w]
                      rfl
                    refine take_ (i := 1) (N := some 37) (v := ?_) (a' := ?_) #[true, true, true, false, false, false, true, false, false, false, false, false, false, false, false, false, false, false] rfl rfl (take_ofW HT_.out HW_.out (by kernel_rfl)) (fun _ _ _ h => h) (Or.inl ⟨by rfl, ?_⟩) hHeld ?_ ?_
                    rotate_left
                    · rintro w' ⟨s0, s1, s2, s3, s4, s5, s6, s7, s8, s9, s10, s11, s12, s13, s14, s15⟩
                      go_simp
                      with_reducible rfl
                    rotate_left
                    · simp only [Act.put, List.setIfInBounds_toArray, List.set_cons_zero, List.set_cons_succ, i64_w, i32_w]
                      rfl
                    refine take_ (i := 4) (N := some 40) (v := ?_) (a' := ?_) #[true, true, true, false, true, false, true, false, false, false, false, false, false, false, false, false, false, false] rfl rfl (take_ofW HT_.out HW_.out (by kernel_rfl)) (fun _ _ _ h => h) (Or.inl ⟨by rfl, ?_⟩) hHeld ?_ ?_
                    rotate_left
                    · rintro w' ⟨s0, s1, s2, s3, s4, s5, s6, s7, s8, s9, s10, s11, s12, s13, s14, s15⟩
                      go_simp
                      with_reducible rfl
                    rotate_left
                    · simp only [Act.put, List.setIfInBounds_toArray, List.set_cons_zero, List.set_cons_succ, i64_w, i32_w]
                      rfl
                    refine take_ (i := 5) (N := some 41) (v := ?_) (a' := ?_) #[true, true, true, false, true, true, true, false, false, false, false, false, false, false, false, false, false, false] rfl rfl (take_ofW HT_.out HW_.out (by kernel_rfl)) (fun _ _ _ h => h) (Or.inl ⟨by rfl, ?_⟩) hHeld ?_ ?_
                    rotate_left
                    · rintro w' ⟨s0, s1, s2, s3, s4, s5, s6, s7, s8, s9, s10, s11, s12, s13, s14, s15⟩
                      go_simp
                      with_reducible rfl
                    rotate_left
                    · simp only [Act.put, List.setIfInBounds_toArray, List.set_cons_zero, List.set_cons_succ, i64_w, i32_w]
                      rfl
                    refine one_ (i := 3) (N := some 39) #[true, true, true, true, true, true, true, false, false, false, false, false, false, false, false, false, false, false] rfl rfl (one_of HT_.out (by kernel_rfl)) (by decide) (fun K hK => ?_)
                    refine goes_ Tryd.func53 (by kernel_rfl) rfl #[.agg #[.int .i64 t150, .int .i64 t151, .int .u64 x157002_31, .int .u64 t153, .int .u64 t154, .string t155], .agg #[.int .u64 a2_0, .int .u64 a2_1, .int .u64 a2_2, .string a2_3, .string a2_4], .bool a3] (by rfl) rfl rfl (by (try simp only [List.map_toArray, List.map_cons, List.map_nil]); first | done | rfl | (simp only [List.length_drop, List.length_take]; rfl)) ?_
                    with_reducible refine (Hand.EqualHolds.calls t150 t151 x157002_31 t153 t154 t155 a2_0 a2_1 a2_2 a2_3 a2_4 a3 t157 _ ?gl1 A44.out).mono ?_
                    case gl1 => (first | exact HG.out | exact Hand.Gl.below HG.out (by repeat (first | (with_reducible first | exact HB.out | apply below_alloc | apply pw_below_drewN | apply below_drew1) | exact HB.out)))
                    rintro e w50 ⟨rfl, hb⟩
                    refine ⟨_, rfl, ?_⟩
                    have n0_ := Aside0.mk (blk_below (g := gb142) (o := .cells #[.int .u64 a0_0, .int .u64 a0_1, .int .u64 a0_2, .string a0_3, .string a0_4] 29 (0, 0)) (by (with_reducible repeat (first | refine blk_drewN ?_ _ | refine blk_drew ?_ | refine blk_alloc ?_ _)); exact BK142.out) hb)
                    have n1_ := Aside0.mk (blk_below (g := gb143) (o := .cells #[.int .u64 a2_0, .int .u64 a2_1, .int .u64 a2_2, .string a2_3, .string a2_4] 29 (0, 0)) (by (with_reducible repeat (first | refine blk_drewN ?_ _ | refine blk_drew ?_ | refine blk_alloc ?_ _)); exact BK143.out) hb)
                    have n2_ := Aside0.mk (blk_below (g := gb156) (o := .cells #[.int .i64 t150, .int .i64 t151, .int .u64 x157002_31, .int .u64 t153, .int .u64 t154, .string t155] 42 (0, 0)) (by (with_reducible repeat (first | refine blk_drewN ?_ _ | refine blk_drew ?_ | refine blk_alloc ?_ _)); exact BK156.out) hb)
                    have n3_ := Aside0.mk (below_step (by repeat (first | (with_reducible first | exact HB.out | apply below_alloc | apply pw_below_drewN | apply below_drew1 | refine below_set ?_ GE142.out | refine below_set ?_ GE143.out | refine below_set ?_ GE156.out) | exact HB.out)) hb)
                    clear BK142
                    clear BK143
                    clear BK156
                    clear HB
                    have BK142 := n0_
                    have BK143 := n1_
                    have BK156 := n2_
                    have HB := n3_
                    clear n0_ n1_ n2_ n3_
                    (try clear hb)
                    (try clear hb2)
                    (try clear hk)
                    (try clear hi)
                    refine hK.out _ _ ⟨(blk_cell BK156.out 0).trans rfl, (blk_cell BK156.out 1).trans rfl, (blk_cell BK156.out 2).trans rfl, (blk_cell BK156.out 3).trans rfl, (blk_cell BK156.out 4).trans rfl, (blk_cell BK156.out 5).trans rfl, (blk_cell BK143.out 0).trans rfl, (blk_cell BK143.out 1).trans rfl, (blk_cell BK143.out 2).trans rfl, (blk_cell BK143.out 3).trans rfl, (blk_cell BK143.out 4).trans rfl, (blk_cell BK142.out 0).trans rfl, (blk_cell BK142.out 1).trans rfl, (blk_cell BK142.out 2).trans rfl, (blk_cell BK142.out 3).trans rfl, (blk_cell BK142.out 4).trans rfl⟩ (fun hHeld => ?_)
                    clear hK K
                    refine norm_ (a' := ?_) ?_ ?_
                    rotate_left
                    · show Act.put _ (some 39) _ = _
                      simp only [Act.put, List.setIfInBounds_toArray, List.set_cons_zero, List.set_cons_succ, i64_w, i32_w]
                      rfl
                    refine one_ (i := 7) (N := some 43) #[true, true, true, true, true, true, true, true, false, false, false, false, false, false, false, false, false, false] rfl rfl (one_of HT_.out (by kernel_rfl)) (by decide) (fun K hK => ?_)
                    refine goes_ Tryd.func54 (by kernel_rfl) rfl #[.agg #[.int .i64 t150, .int .i64 t151, .int .u64 x157002_31, .int .u64 t153, .int .u64 t154, .string t155], .agg #[.int .u64 a2_0, .int .u64 a2_1, .int .u64 a2_2, .string a2_3, .string a2_4], .bool a3] (by rfl) rfl rfl (by (try simp only [List.map_toArray, List.map_cons, List.map_nil]); first | done | rfl | (simp only [List.length_drop, List.length_take]; rfl)) ?_
                    with_reducible refine (Hand.TildeHolds.calls t150 t151 x157002_31 t153 t154 t155 a2_0 a2_1 a2_2 a2_3 a2_4 a3 t158 _ ?gl2 A45.out).mono ?_
                    case gl2 => (first | exact HG.out | exact Hand.Gl.below HG.out (by repeat (first | (with_reducible first | exact HB.out | apply below_alloc | apply pw_below_drewN | apply below_drew1) | exact HB.out)))
                    rintro e w51 ⟨rfl, hb⟩
                    refine ⟨_, rfl, ?_⟩
                    have n0_ := Aside0.mk (blk_below (g := gb142) (o := .cells #[.int .u64 a0_0, .int .u64 a0_1, .int .u64 a0_2, .string a0_3, .string a0_4] 29 (0, 0)) (by (with_reducible repeat (first | refine blk_drewN ?_ _ | refine blk_drew ?_ | refine blk_alloc ?_ _)); exact BK142.out) hb)
                    have n1_ := Aside0.mk (blk_below (g := gb143) (o := .cells #[.int .u64 a2_0, .int .u64 a2_1, .int .u64 a2_2, .string a2_3, .string a2_4] 29 (0, 0)) (by (with_reducible repeat (first | refine blk_drewN ?_ _ | refine blk_drew ?_ | refine blk_alloc ?_ _)); exact BK143.out) hb)
                    have n2_ := Aside0.mk (blk_below (g := gb156) (o := .cells #[.int .i64 t150, .int .i64 t151, .int .u64 x157002_31, .int .u64 t153, .int .u64 t154, .string t155] 42 (0, 0)) (by (with_reducible repeat (first | refine blk_drewN ?_ _ | refine blk_drew ?_ | refine blk_alloc ?_ _)); exact BK156.out) hb)
                    have n3_ := Aside0.mk (below_step (by repeat (first | (with_reducible first | exact HB.out | apply below_alloc | apply pw_below_drewN | apply below_drew1 | refine below_set ?_ GE142.out | refine below_set ?_ GE143.out | refine below_set ?_ GE156.out) | exact HB.out)) hb)
                    clear BK142
                    clear BK143
                    clear BK156
                    clear HB
                    have BK142 := n0_
                    have BK143 := n1_
                    have BK156 := n2_
                    have HB := n3_
                    clear n0_ n1_ n2_ n3_
                    (try clear hb)
                    (try clear hb2)
                    (try clear hk)
                    (try clear hi)
                    refine hK.out _ _ ⟨(blk_cell BK156.out 0).trans rfl, (blk_cell BK156.out 1).trans rfl, (blk_cell BK156.out 2).trans rfl, (blk_cell BK156.out 3).trans rfl, (blk_cell BK156.out 4).trans rfl, (blk_cell BK156.out 5).trans rfl, (blk_cell BK143.out 0).trans rfl, (blk_cell BK143.out 1).trans rfl, (blk_cell BK143.out 2).trans rfl, (blk_cell BK143.out 3).trans rfl, (blk_cell BK143.out 4).trans rfl, (blk_cell BK142.out 0).trans rfl, (blk_cell BK142.out 1).trans rfl, (blk_cell BK142.out 2).trans rfl, (blk_cell BK142.out 3).trans rfl, (blk_cell BK142.out 4).trans rfl⟩ (fun hHeld => ?_)
                    clear hK K
                    refine norm_ (a' := ?_) ?_ ?_
                    rotate_left
                    · show Act.put _ (some 43) _ = _
                      simp only [Act.put, List.setIfInBounds_toArray, List.set_cons_zero, List.set_cons_succ, i64_w, i32_w]
                      rfl
                    refine pure_ (i := 8) (N := some 44) (v := ?_) (a' := ?_) #[true, true, true, true, true, true, true, true, true, false, false, false, false, false, false, false, false, false] rfl rfl (any_of HT_.out (by kernel_rfl)) (fun _ _ _ h => h) (Or.inl ⟨by rfl, ?_⟩) ?_ ?_
                    rotate_left
                    · intro w'
                      go_simp
                      with_reducible rfl
                    rotate_left
                    · simp only [Act.put, List.setIfInBounds_toArray, List.set_cons_zero, List.set_cons_succ, i64_w, i32_w]
                      rfl
                    refine pure_ (i := 9) (N := some 45) (v := ?_) (a' := ?_) #[true, true, true, true, true, true, true, true, true, true, false, false, false, false, false, false, false, false] rfl rfl (any_of HT_.out (by kernel_rfl)) (fun _ _ _ h => h) (Or.inl ⟨by rfl, ?_⟩) ?_ ?_
                    rotate_left
                    · intro w'
                      go_simp
                      with_reducible rfl
                    rotate_left
                    · simp only [Act.put, List.setIfInBounds_toArray, List.set_cons_zero, List.set_cons_succ, i64_w, i32_w]
                      rfl
                    refine pure_ (i := 12) (N := some 48) (v := ?_) (a' := ?_) #[true, true, true, true, true, true, true, true, true, true, false, false, true, false, false, false, false, false] rfl rfl (any_of HT_.out (by kernel_rfl)) (fun _ _ _ h => h) (Or.inl ⟨by rfl, ?_⟩) ?_ ?_
                    rotate_left
                    · intro w'
                      go_simp
                      with_reducible rfl
                    rotate_left
                    · simp only [Act.put, List.setIfInBounds_toArray, List.set_cons_zero, List.set_cons_succ, i64_w, i32_w]
                      rfl
                    refine pure_ (i := 14) (N := some 50) (v := ?_) (a' := ?_) #[true, true, true, true, true, true, true, true, true, true, false, false, true, false, true, false, false, false] rfl rfl (any_of HT_.out (by kernel_rfl)) (fun _ _ _ h => h) (Or.inl ⟨by rfl, ?_⟩) ?_ ?_
                    rotate_left
                    · intro w'
                      go_simp
                      with_reducible rfl
                    rotate_left
                    · simp only [Act.put, List.setIfInBounds_toArray, List.set_cons_zero, List.set_cons_succ, i64_w, i32_w]
                      rfl
                    refine take_ (i := 10) (N := some 46) (v := ?_) (a' := ?_) #[true, true, true, true, true, true, true, true, true, true, true, false, true, false, true, false, false, false] rfl rfl (take_ofW HT_.out HW_.out (by kernel_rfl)) (fun _ _ _ h => h) (Or.inl ⟨by rfl, ?_⟩) hHeld ?_ ?_
                    rotate_left
                    · rintro w' ⟨s0, s1, s2, s3, s4, s5, s6, s7, s8, s9, s10, s11, s12, s13, s14, s15⟩
                      go_simp
                      with_reducible rfl
                    rotate_left
                    · simp only [Act.put, List.setIfInBounds_toArray, List.set_cons_zero, List.set_cons_succ, i64_w, i32_w]
                      rfl
                    refine take_ (i := 11) (N := some 47) (v := ?_) (a' := ?_) #[true, true, true, true, true, true, true, true, true, true, true, true, true, false, true, false, false, false] rfl rfl (take_ofW HT_.out HW_.out (by kernel_rfl)) (fun _ _ _ h => h) (Or.inl ⟨by rfl, ?_⟩) hHeld ?_ ?_
                    rotate_left
                    · rintro w' ⟨s0, s1, s2, s3, s4, s5, s6, s7, s8, s9, s10, s11, s12, s13, s14, s15⟩
                      go_simp
                      with_reducible rfl
                    rotate_left
                    · simp only [Act.put, List.setIfInBounds_toArray, List.set_cons_zero, List.set_cons_succ, i64_w, i32_w]
                      rfl
                    refine one_ (i := 13) (N := some 49) #[true, true, true, true, true, true, true, true, true, true, true, true, true, true, true, false, false, false] rfl rfl (one_of HT_.out (by kernel_rfl)) (by decide) (fun K hK => ?_)
                    refine goes_ Tryd.func55 (by kernel_rfl) rfl #[.agg #[.int .u64 a0_0, .int .u64 a0_1, .int .u64 a0_2, .string a0_3, .string a0_4], .int .i64 a1] (by rfl) rfl rfl (by (try simp only [List.map_toArray, List.map_cons, List.map_nil]); first | done | rfl | (simp only [List.length_drop, List.length_take]; rfl)) ?_
                    with_reducible refine (laws_scFirst.calls a0_0 a0_1 a0_2 a0_3 a0_4 a1 t159 t160 t161 t162 t163 _ A47.out).mono ?_
                    rintro e w52 ⟨rfl, hb⟩
                    refine ⟨_, rfl, ?_⟩
                    have n0_ := Aside0.mk (blk_below (g := gb142) (o := .cells #[.int .u64 a0_0, .int .u64 a0_1, .int .u64 a0_2, .string a0_3, .string a0_4] 29 (0, 0)) (by (with_reducible repeat (first | refine blk_drewN ?_ _ | refine blk_drew ?_ | refine blk_alloc ?_ _)); exact BK142.out) hb)
                    have n1_ := Aside0.mk (blk_below (g := gb143) (o := .cells #[.int .u64 a2_0, .int .u64 a2_1, .int .u64 a2_2, .string a2_3, .string a2_4] 29 (0, 0)) (by (with_reducible repeat (first | refine blk_drewN ?_ _ | refine blk_drew ?_ | refine blk_alloc ?_ _)); exact BK143.out) hb)
                    have n2_ := Aside0.mk (blk_below (g := gb156) (o := .cells #[.int .i64 t150, .int .i64 t151, .int .u64 x157002_31, .int .u64 t153, .int .u64 t154, .string t155] 42 (0, 0)) (by (with_reducible repeat (first | refine blk_drewN ?_ _ | refine blk_drew ?_ | refine blk_alloc ?_ _)); exact BK156.out) hb)
                    have n3_ := Aside0.mk (below_step (by repeat (first | (with_reducible first | exact HB.out | apply below_alloc | apply pw_below_drewN | apply below_drew1 | refine below_set ?_ GE142.out | refine below_set ?_ GE143.out | refine below_set ?_ GE156.out) | exact HB.out)) hb)
                    clear BK142
                    clear BK143
                    clear BK156
                    clear HB
                    have BK142 := n0_
                    have BK143 := n1_
                    have BK156 := n2_
                    have HB := n3_
                    clear n0_ n1_ n2_ n3_
                    (try clear hb)
                    (try clear hb2)
                    (try clear hk)
                    (try clear hi)
                    refine hK.out _ _ ⟨(blk_cell BK156.out 0).trans rfl, (blk_cell BK156.out 1).trans rfl, (blk_cell BK156.out 2).trans rfl, (blk_cell BK156.out 3).trans rfl, (blk_cell BK156.out 4).trans rfl, (blk_cell BK156.out 5).trans rfl, (blk_cell BK143.out 0).trans rfl, (blk_cell BK143.out 1).trans rfl, (blk_cell BK143.out 2).trans rfl, (blk_cell BK143.out 3).trans rfl, (blk_cell BK143.out 4).trans rfl, (blk_cell BK142.out 0).trans rfl, (blk_cell BK142.out 1).trans rfl, (blk_cell BK142.out 2).trans rfl, (blk_cell BK142.out 3).trans rfl, (blk_cell BK142.out 4).trans rfl⟩ (fun hHeld => ?_)
                    clear hK K
                    refine norm_ (a' := ?_) ?_ ?_
                    rotate_left
                    · show Act.put _ (some 49) _ = _
                      simp only [Act.put, List.setIfInBounds_toArray, List.set_cons_zero, List.set_cons_succ, i64_w, i32_w]
                      rfl
                    refine one_ (i := 15) (N := some 51) #[true, true, true, true, true, true, true, true, true, true, true, true, true, true, true, true, false, false] rfl rfl (one_of HT_.out (by kernel_rfl)) (by decide) (fun K hK => ?_)
                    refine goes_ Tryd.func53 (by kernel_rfl) rfl #[.agg #[.int .i64 t150, .int .i64 t151, .int .u64 x157002_31, .int .u64 t153, .int .u64 t154, .string t155], .agg #[.int .u64 t159, .int .u64 t160, .int .u64 t161, .string t162, .string t163], .bool a3] (by rfl) rfl rfl (by (try simp only [List.map_toArray, List.map_cons, List.map_nil]); first | done | rfl | (simp only [List.length_drop, List.length_take]; rfl)) ?_
                    with_reducible refine (Hand.EqualHolds.calls t150 t151 x157002_31 t153 t154 t155 t159 t160 t161 t162 t163 a3 t164 _ ?gl3 A48.out).mono ?_
                    case gl3 => (first | exact HG.out | exact Hand.Gl.below HG.out (by repeat (first | (with_reducible first | exact HB.out | apply below_alloc | apply pw_below_drewN | apply below_drew1) | exact HB.out)))
                    rintro e w53 ⟨rfl, hb⟩
                    refine ⟨_, rfl, ?_⟩
                    have n0_ := Aside0.mk (blk_below (g := gb142) (o := .cells #[.int .u64 a0_0, .int .u64 a0_1, .int .u64 a0_2, .string a0_3, .string a0_4] 29 (0, 0)) (by (with_reducible repeat (first | refine blk_drewN ?_ _ | refine blk_drew ?_ | refine blk_alloc ?_ _)); exact BK142.out) hb)
                    have n1_ := Aside0.mk (blk_below (g := gb143) (o := .cells #[.int .u64 a2_0, .int .u64 a2_1, .int .u64 a2_2, .string a2_3, .string a2_4] 29 (0, 0)) (by (with_reducible repeat (first | refine blk_drewN ?_ _ | refine blk_drew ?_ | refine blk_alloc ?_ _)); exact BK143.out) hb)
                    have n2_ := Aside0.mk (blk_below (g := gb156) (o := .cells #[.int .i64 t150, .int .i64 t151, .int .u64 x157002_31, .int .u64 t153, .int .u64 t154, .string t155] 42 (0, 0)) (by (with_reducible repeat (first | refine blk_drewN ?_ _ | refine blk_drew ?_ | refine blk_alloc ?_ _)); exact BK156.out) hb)
                    have n3_ := Aside0.mk (below_step (by repeat (first | (with_reducible first | exact HB.out | apply below_alloc | apply pw_below_drewN | apply below_drew1 | refine below_set ?_ GE142.out | refine below_set ?_ GE143.out | refine below_set ?_ GE156.out) | exact HB.out)) hb)
                    clear BK142
                    clear BK143
                    clear BK156
                    clear HB
                    have BK142 := n0_
                    have BK143 := n1_
                    have BK156 := n2_
                    have HB := n3_
                    clear n0_ n1_ n2_ n3_
                    (try clear hb)
                    (try clear hb2)
                    (try clear hk)
                    (try clear hi)
                    refine hK.out _ _ ⟨(blk_cell BK156.out 0).trans rfl, (blk_cell BK156.out 1).trans rfl, (blk_cell BK156.out 2).trans rfl, (blk_cell BK156.out 3).trans rfl, (blk_cell BK156.out 4).trans rfl, (blk_cell BK156.out 5).trans rfl, (blk_cell BK143.out 0).trans rfl, (blk_cell BK143.out 1).trans rfl, (blk_cell BK143.out 2).trans rfl, (blk_cell BK143.out 3).trans rfl, (blk_cell BK143.out 4).trans rfl, (blk_cell BK142.out 0).trans rfl, (blk_cell BK142.out 1).trans rfl, (blk_cell BK142.out 2).trans rfl, (blk_cell BK142.out 3).trans rfl, (blk_cell BK142.out 4).trans rfl⟩ (fun hHeld => ?_)
                    clear hK K
                    refine norm_ (a' := ?_) ?_ ?_
                    rotate_left
                    · show Act.put _ (some 51) _ = _
                      simp only [Act.put, List.setIfInBounds_toArray, List.set_cons_zero, List.set_cons_succ, i64_w, i32_w]
                      rfl
                    refine pure_ (i := 16) (N := some 52) (v := ?_) (a' := ?_) #[true, true, true, true, true, true, true, true, true, true, true, true, true, true, true, true, true, false] rfl rfl (any_of HT_.out (by kernel_rfl)) (fun _ _ _ h => h) (Or.inl ⟨by rfl, ?_⟩) ?_ ?_
                    rotate_left
                    · intro w'
                      go_simp
                      with_reducible rfl
                    rotate_left
                    · simp only [Act.put, List.setIfInBounds_toArray, List.set_cons_zero, List.set_cons_succ, i64_w, i32_w]
                      rfl
                    refine pure_ (i := 17) (N := some 8) (v := ?_) (a' := ?_) #[true, true, true, true, true, true, true, true, true, true, true, true, true, true, true, true, true, true] rfl rfl (any_of HT_.out (by kernel_rfl)) (fun _ _ _ h => h) (Or.inl ⟨by rfl, ?_⟩) ?_ ?_
                    rotate_left
                    · intro w'
                      go_simp
                      with_reducible rfl
                    rotate_left
                    · simp only [Act.put, List.setIfInBounds_toArray, List.set_cons_zero, List.set_cons_succ, i64_w, i32_w]
                      rfl
                    refine done_ (done_of HT_.out (by kernel_rfl)) ?_
                    try go_wp2
                    go_ret
                    exact ⟨by first | rfl | (simp [errW_none, errW_some] <;> rfl) | (simp [*, errW_none, errW_some] <;> rfl), by repeat (first | (with_reducible first | exact HB.out | apply below_alloc | apply pw_below_drewN | apply below_drew1 | refine below_set ?_ GE142.out | refine below_set ?_ GE143.out | refine below_set ?_ GE156.out) | exact HB.out)⟩
                  · rw [if_neg c46] at H
                    have c46b0 : (t157 == t158) = false := by simpa using c46
                    (try (have c46b1 : decide (t157 = t158) = false := by simpa using c46))
                    (try (have c46b2 : (t157 == t158) = false := by simpa using c46))
                    (try (have c46b3 : ¬ (t157 = t158) := by simpa using c46))
                    clear c46
                    obtain rfl := Option.some.inj H
                    try go_wp2
                    have n0_ := Aside0.mk (blk_drew BK142.out)
                    have n1_ := Aside0.mk (blk_drew BK143.out)
                    have n2_ := Aside0.mk (blk_drew BK156.out)
                    have n3_ := Aside0.mk (below_drew1 HB.out)
                    clear BK142
                    clear BK143
                    clear BK156
                    clear HB
                    have BK142 := n0_
                    have BK143 := n1_
                    have BK156 := n2_
                    have HB := n3_
                    clear n0_ n1_ n2_ n3_
                    refine start_ (n := 18) (S := fun w' => w'.cell? ⟨gb156, 0, none⟩ = some (.int .i64 t150) ∧ w'.cell? ⟨gb156, 1, none⟩ = some (.int .i64 t151) ∧ w'.cell? ⟨gb156, 2, none⟩ = some (.int .u64 x157002_31) ∧ w'.cell? ⟨gb156, 3, none⟩ = some (.int .u64 t153) ∧ w'.cell? ⟨gb156, 4, none⟩ = some (.int .u64 t154) ∧ w'.cell? ⟨gb156, 5, none⟩ = some (.string t155) ∧ w'.cell? ⟨gb143, 0, none⟩ = some (.int .u64 a2_0) ∧ w'.cell? ⟨gb143, 1, none⟩ = some (.int .u64 a2_1) ∧ w'.cell? ⟨gb143, 2, none⟩ = some (.int .u64 a2_2) ∧ w'.cell? ⟨gb143, 3, none⟩ = some (.string a2_3) ∧ w'.cell? ⟨gb143, 4, none⟩ = some (.string a2_4)) (ds := []) #[false, false, false, false, false, false, false, false, false, false, false, false, false, false, false, false, false, false] (by kernel_rfl) rfl rfl ⟨(blk_cell BK156.out 0).trans rfl, (blk_cell BK156.out 1).trans rfl, (blk_cell BK156.out 2).trans rfl, (blk_cell BK156.out 3).trans rfl, (blk_cell BK156.out 4).trans rfl, (blk_cell BK156.out 5).trans rfl, (blk_cell BK143.out 0).trans rfl, (blk_cell BK143.out 1).trans rfl, (blk_cell BK143.out 2).trans rfl, (blk_cell BK143.out 3).trans rfl, (blk_cell BK143.out 4).trans rfl⟩ (fun hHeld => ?_); refine with_tabW laws_FnSemverEqualWild.tab8 laws_FnSemverEqualWild.bits8 (fun HT_ HW_ => ?_)
                    generalize wc.drew = w54 at BK142 BK143 BK156 HB hHeld ⊢
                    refine pure_ (i := 2) (N := some 38) (v := ?_) (a' := ?_) #[false, false, true, false, false, false, false, false, false, false, false, false, false, false, false, false, false, false] rfl rfl (any_of HT_.out (by kernel_rfl)) (fun _ _ _ h => h) (Or.inl ⟨by rfl, ?_⟩) ?_ ?_
                    rotate_left
                    · intro w'
                      go_simp
                      with_reducible rfl
                    rotate_left
                    · simp only [Act.put, List.setIfInBounds_toArray, List.set_cons_zero, List.set_cons_succ, i64_w, i32_w]
                      rfl
                    refine pure_ (i := 6) (N := some 42) (v := ?_) (a' := ?_) #[false, false, true, false, false, false, true, false, false, false, false, false, false, false, false, false, false, false] rfl rfl (any_of HT_.out (by kernel_rfl)) (fun _ _ _ h => h) (Or.inl ⟨by rfl, ?_⟩) ?_ ?_
                    rotate_left
                    · intro w'
                      go_simp
                      with_reducible rfl
                    rotate_left
                    · simp only [Act.put, List.setIfInBounds_toArray, List.set_cons_zero, List.set_cons_succ, i64_w, i32_w]
                      rfl
                    refine take_ (i := 0) (N := some 36) (v := ?_) (a' := ?_) #[true, false, true, false, false, false, true, false, false, false, false, false, false, false, false, false, false, false] rfl rfl (take_ofW HT_.out HW_.out (by kernel_rfl)) (fun _ _ _ h => h) (Or.inl ⟨by rfl, ?_⟩) hHeld ?_ ?_
                    rotate_left
                    · rintro w' ⟨s0, s1, s2, s3, s4, s5, s6, s7, s8, s9, s10⟩
                      go_simp
                      with_reducible rfl
                    rotate_left
                    · simp only [Act.put, List.setIfInBounds_toArray, List.set_cons_zero, List.set_cons_succ, i64_w, i32_w]
                      rfl
                    refine take_ (i := 1) (N := some 37) (v := ?_) (a' := ?_) #[true, true, true, false, false, false, true, false, false, false, false, false, false, false, false, false, false, false] rfl rfl (take_ofW HT_.out HW_.out (by kernel_rfl)) (fun _ _ _ h => h) (Or.inl ⟨by rfl, ?_⟩) hHeld ?_ ?_
                    rotate_left
                    · rintro w' ⟨s0, s1, s2, s3, s4, s5, s6, s7, s8, s9, s10⟩
                      go_simp
                      with_reducible rfl
                    rotate_left
                    · simp only [Act.put, List.setIfInBounds_toArray, List.set_cons_zero, List.set_cons_succ, i64_w, i32_w]
                      rfl
                    refine take_ (i := 4) (N := some 40) (v := ?_) (a' := ?_) #[true, true, true, false, true, false, true, false, false, false, false, false, false, false, false, false, false, false] rfl rfl (take_ofW HT_.out HW_.out (by kernel_rfl)) (fun _ _ _ h => h) (Or.inl ⟨by rfl, ?_⟩) hHeld ?_ ?_
                    rotate_left
                    · rintro w' ⟨s0, s1, s2, s3, s4, s5, s6, s7, s8, s9, s10⟩
                      go_simp
                      with_reducible rfl
                    rotate_left
                    · simp only [Act.put, List.setIfInBounds_toArray, List.set_cons_zero, List.set_cons_succ, i64_w, i32_w]
                      rfl
                    refine take_ (i := 5) (N := some 41) (v := ?_) (a' := ?_) #[true, true, true, false, true, true, true, false, false, false, false, false, false, false, false, false, false, false] rfl rfl (take_ofW HT_.out HW_.out (by kernel_rfl)) (fun _ _ _ h => h) (Or.inl ⟨by rfl, ?_⟩) hHeld ?_ ?_
                    rotate_left
                    · rintro w' ⟨s0, s1, s2, s3, s4, s5, s6, s7, s8, s9, s10⟩
                      go_simp
                      with_reducible rfl
                    rotate_left
                    · simp only [Act.put, List.setIfInBounds_toArray, List.set_cons_zero, List.set_cons_succ, i64_w, i32_w]
                      rfl
                    refine one_ (i := 3) (N := some 39) #[true, true, true, true, true, true, true, false, false, false, false, false, false, false, false, false, false, false] rfl rfl (one_of HT_.out (by kernel_rfl)) (by decide) (fun K hK => ?_)
                    refine goes_ Tryd.func53 (by kernel_rfl) rfl #[.agg #[.int .i64 t150, .int .i64 t151, .int .u64 x157002_31, .int .u64 t153, .int .u64 t154, .string t155], .agg #[.int .u64 a2_0, .int .u64 a2_1, .int .u64 a2_2, .string a2_3, .string a2_4], .bool a3] (by rfl) rfl rfl (by (try simp only [List.map_toArray, List.map_cons, List.map_nil]); first | done | rfl | (simp only [List.length_drop, List.length_take]; rfl)) ?_
                    with_reducible refine (Hand.EqualHolds.calls t150 t151 x157002_31 t153 t154 t155 a2_0 a2_1 a2_2 a2_3 a2_4 a3 t157 _ ?gl4 A44.out).mono ?_
                    case gl4 => (first | exact HG.out | exact Hand.Gl.below HG.out (by repeat (first | (with_reducible first | exact HB.out | apply below_alloc | apply pw_below_drewN | apply below_drew1) | exact HB.out)))
                    rintro e w55 ⟨rfl, hb⟩
                    refine ⟨_, rfl, ?_⟩
                    have n0_ := Aside0.mk (blk_below (g := gb142) (o := .cells #[.int .u64 a0_0, .int .u64 a0_1, .int .u64 a0_2, .string a0_3, .string a0_4] 29 (0, 0)) (by (with_reducible repeat (first | refine blk_drewN ?_ _ | refine blk_drew ?_ | refine blk_alloc ?_ _)); exact BK142.out) hb)
                    have n1_ := Aside0.mk (blk_below (g := gb143) (o := .cells #[.int .u64 a2_0, .int .u64 a2_1, .int .u64 a2_2, .string a2_3, .string a2_4] 29 (0, 0)) (by (with_reducible repeat (first | refine blk_drewN ?_ _ | refine blk_drew ?_ | refine blk_alloc ?_ _)); exact BK143.out) hb)
                    have n2_ := Aside0.mk (blk_below (g := gb156) (o := .cells #[.int .i64 t150, .int .i64 t151, .int .u64 x157002_31, .int .u64 t153, .int .u64 t154, .string t155] 42 (0, 0)) (by (with_reducible repeat (first | refine blk_drewN ?_ _ | refine blk_drew ?_ | refine blk_alloc ?_ _)); exact BK156.out) hb)
                    have n3_ := Aside0.mk (below_step (by repeat (first | (with_reducible first | exact HB.out | apply below_alloc | apply pw_below_drewN | apply below_drew1 | refine below_set ?_ GE142.out | refine below_set ?_ GE143.out | refine below_set ?_ GE156.out) | exact HB.out)) hb)
                    clear BK142
                    clear BK143
                    clear BK156
                    clear HB
                    have BK142 := n0_
                    have BK143 := n1_
                    have BK156 := n2_
                    have HB := n3_
                    clear n0_ n1_ n2_ n3_
                    (try clear hb)
                    (try clear hb2)
                    (try clear hk)
                    (try clear hi)
                    refine hK.out _ _ ⟨(blk_cell BK156.out 0).trans rfl, (blk_cell BK156.out 1).trans rfl, (blk_cell BK156.out 2).trans rfl, (blk_cell BK156.out 3).trans rfl, (blk_cell BK156.out 4).trans rfl, (blk_cell BK156.out 5).trans rfl, (blk_cell BK143.out 0).trans rfl, (blk_cell BK143.out 1).trans rfl, (blk_cell BK143.out 2).trans rfl, (blk_cell BK143.out 3).trans rfl, (blk_cell BK143.out 4).trans rfl⟩ (fun hHeld => ?_)
                    clear hK K
                    refine norm_ (a' := ?_) ?_ ?_
                    rotate_left
                    · show Act.put _ (some 39) _ = _
                      simp only [Act.put, List.setIfInBounds_toArray, List.set_cons_zero, List.set_cons_succ, i64_w, i32_w]
                      rfl
                    refine one_ (i := 7) (N := some 43) #[true, true, true, true, true, true, true, true, false, false, false, false, false, false, false, false, false, false] rfl rfl (one_of HT_.out (by kernel_rfl)) (by decide) (fun K hK => ?_)
                    refine goes_ Tryd.func54 (by kernel_rfl) rfl #[.agg #[.int .i64 t150, .int .i64 t151, .int .u64 x157002_31, .int .u64 t153, .int .u64 t154, .string t155], .agg #[.int .u64 a2_0, .int .u64 a2_1, .int .u64 a2_2, .string a2_3, .string a2_4], .bool a3] (by rfl) rfl rfl (by (try simp only [List.map_toArray, List.map_cons, List.map_nil]); first | done | rfl | (simp only [List.length_drop, List.length_take]; rfl)) ?_
                    with_reducible refine (Hand.TildeHolds.calls t150 t151 x157002_31 t153 t154 t155 a2_0 a2_1 a2_2 a2_3 a2_4 a3 t158 _ ?gl5 A45.out).mono ?_
                    case gl5 => (first | exact HG.out | exact Hand.Gl.below HG.out (by repeat (first | (with_reducible first | exact HB.out | apply below_alloc | apply pw_below_drewN | apply below_drew1) | exact HB.out)))
                    rintro e w56 ⟨rfl, hb⟩
                    refine ⟨_, rfl, ?_⟩
                    have n0_ := Aside0.mk (blk_below (g := gb142) (o := .cells #[.int .u64 a0_0, .int .u64 a0_1, .int .u64 a0_2, .string a0_3, .string a0_4] 29 (0, 0)) (by (with_reducible repeat (first | refine blk_drewN ?_ _ | refine blk_drew ?_ | refine blk_alloc ?_ _)); exact BK142.out) hb)
                    have n1_ := Aside0.mk (blk_below (g := gb143) (o := .cells #[.int .u64 a2_0, .int .u64 a2_1, .int .u64 a2_2, .string a2_3, .string a2_4] 29 (0, 0)) (by (with_reducible repeat (first | refine blk_drewN ?_ _ | refine blk_drew ?_ | refine blk_alloc ?_ _)); exact BK143.out) hb)
                    have n2_ := Aside0.mk (blk_below (g := gb156) (o := .cells #[.int .i64 t150, .int .i64 t151, .int .u64 x157002_31, .int .u64 t153, .int .u64 t154, .string t155] 42 (0, 0)) (by (with_reducible repeat (first | refine blk_drewN ?_ _ | refine blk_drew ?_ | refine blk_alloc ?_ _)); exact BK156.out) hb)
                    have n3_ := Aside0.mk (below_step (by repeat (first | (with_reducible first | exact HB.out | apply below_alloc | apply pw_below_drewN | apply below_drew1 | refine below_set ?_ GE142.out | refine below_set ?_ GE143.out | refine below_set ?_ GE156.out) | exact HB.out)) hb)
                    clear BK142
                    clear BK143
                    clear BK156
                    clear HB
                    have BK142 := n0_
                    have BK143 := n1_
                    have BK156 := n2_
                    have HB := n3_
                    clear n0_ n1_ n2_ n3_
                    (try clear hb)
                    (try clear hb2)
                    (try clear hk)
                    (try clear hi)
                    refine hK.out _ _ ⟨(blk_cell BK156.out 0).trans rfl, (blk_cell BK156.out 1).trans rfl, (blk_cell BK156.out 2).trans rfl, (blk_cell BK156.out 3).trans rfl, (blk_cell BK156.out 4).trans rfl, (blk_cell BK156.out 5).trans rfl, (blk_cell BK143.out 0).trans rfl, (blk_cell BK143.out 1).trans rfl, (blk_cell BK143.out 2).trans rfl, (blk_cell BK143.out 3).trans rfl, (blk_cell BK143.out 4).trans rfl⟩ (fun hHeld => ?_)
                    clear hK K
                    refine norm_ (a' := ?_) ?_ ?_
                    rotate_left
                    · show Act.put _ (some 43) _ = _
                      simp only [Act.put, List.setIfInBounds_toArray, List.set_cons_zero, List.set_cons_succ, i64_w, i32_w]
                      rfl
                    refine pure_ (i := 8) (N := some 44) (v := ?_) (a' := ?_) #[true, true, true, true, true, true, true, true, true, false, false, false, false, false, false, false, false, false] rfl rfl (any_of HT_.out (by kernel_rfl)) (fun _ _ _ h => h) (Or.inl ⟨by rfl, ?_⟩) ?_ ?_
                    rotate_left
                    · intro w'
                      go_simp
                      with_reducible rfl
                    rotate_left
                    · simp only [Act.put, List.setIfInBounds_toArray, List.set_cons_zero, List.set_cons_succ, i64_w, i32_w]
                      rfl
                    refine pure_ (i := 9) (N := some 45) (v := ?_) (a' := ?_) #[true, true, true, true, true, true, true, true, true, true, false, false, false, false, false, false, false, false] rfl rfl (any_of HT_.out (by kernel_rfl)) (fun _ _ _ h => h) (Or.inl ⟨by rfl, ?_⟩) ?_ ?_
                    rotate_left
                    · intro w'
                      go_simp
                      with_reducible rfl
                    rotate_left
                    · simp only [Act.put, List.setIfInBounds_toArray, List.set_cons_zero, List.set_cons_succ, i64_w, i32_w]
                      rfl
                    refine pure_ (i := 10) (N := some 46) (v := undef) (a' := ?_) #[true, true, true, true, true, true, true, true, true, true, true, false, false, false, false, false, false, false] rfl rfl (any_of HT_.out (by kernel_rfl)) (fun _ _ _ h => h) (Or.inr ⟨by rfl, rfl⟩) ?_ ?_
                    rotate_left
                    · simp only [Act.put, List.setIfInBounds_toArray, List.set_cons_zero, List.set_cons_succ, i64_w, i32_w]
                      rfl
                    refine pure_ (i := 11) (N := some 47) (v := undef) (a' := ?_) #[true, true, true, true, true, true, true, true, true, true, true, true, false, false, false, false, false, false] rfl rfl (any_of HT_.out (by kernel_rfl)) (fun _ _ _ h => h) (Or.inr ⟨by rfl, rfl⟩) ?_ ?_
                    rotate_left
                    · simp only [Act.put, List.setIfInBounds_toArray, List.set_cons_zero, List.set_cons_succ, i64_w, i32_w]
                      rfl
                    refine pure_ (i := 12) (N := some 48) (v := undef) (a' := ?_) #[true, true, true, true, true, true, true, true, true, true, true, true, true, false, false, false, false, false] rfl rfl (any_of HT_.out (by kernel_rfl)) (fun _ _ _ h => h) (Or.inr ⟨by rfl, rfl⟩) ?_ ?_
                    rotate_left
                    · simp only [Act.put, List.setIfInBounds_toArray, List.set_cons_zero, List.set_cons_succ, i64_w, i32_w]
                      rfl
                    refine pure_ (i := 13) (N := some 49) (v := undef) (a' := ?_) #[true, true, true, true, true, true, true, true, true, true, true, true, true, true, false, false, false, false] rfl rfl (any_of HT_.out (by kernel_rfl)) (fun _ _ _ h => h) (Or.inr ⟨by rfl, rfl⟩) ?_ ?_
                    rotate_left
                    · simp only [Act.put, List.setIfInBounds_toArray, List.set_cons_zero, List.set_cons_succ, i64_w, i32_w]
                      rfl
                    refine pure_ (i := 14) (N := some 50) (v := undef) (a' := ?_) #[true, true, true, true, true, true, true, true, true, true, true, true, true, true, true, false, false, false] rfl rfl (any_of HT_.out (by kernel_rfl)) (fun _ _ _ h => h) (Or.inr ⟨by rfl, rfl⟩) ?_ ?_
                    rotate_left
                    · simp only [Act.put, List.setIfInBounds_toArray, List.set_cons_zero, List.set_cons_succ, i64_w, i32_w]
                      rfl
                    refine pure_ (i := 15) (N := some 51) (v := undef) (a' := ?_) #[true, true, true, true, true, true, true, true, true, true, true, true, true, true, true, true, false, false] rfl rfl (any_of HT_.out (by kernel_rfl)) (fun _ _ _ h => h) (Or.inr ⟨by rfl, rfl⟩) ?_ ?_
                    rotate_left
                    · simp only [Act.put, List.setIfInBounds_toArray, List.set_cons_zero, List.set_cons_succ, i64_w, i32_w]
                      rfl
                    refine pure_ (i := 16) (N := some 52) (v := ?_) (a' := ?_) #[true, true, true, true, true, true, true, true, true, true, true, true, true, true, true, true, true, false] rfl rfl (any_of HT_.out (by kernel_rfl)) (fun _ _ _ h => h) (Or.inl ⟨by rfl, ?_⟩) ?_ ?_
                    rotate_left
                    · intro w'
                      go_simp
                      with_reducible rfl
                    rotate_left
                    · simp only [Act.put, List.setIfInBounds_toArray, List.set_cons_zero, List.set_cons_succ, i64_w, i32_w]
                      rfl
                    refine pure_ (i := 17) (N := some 8) (v := ?_) (a' := ?_) #[true, true, true, true, true, true, true, true, true, true, true, true, true, true, true, true, true, true] rfl rfl (any_of HT_.out (by kernel_rfl)) (fun _ _ _ h => h) (Or.inl ⟨by rfl, ?_⟩) ?_ ?_
                    rotate_left
                    · intro w'
                      go_simp
                      with_reducible rfl
                    rotate_left
                    · simp only [Act.put, List.setIfInBounds_toArray, List.set_cons_zero, List.set_cons_succ, i64_w, i32_w]
                      rfl
                    refine done_ (done_of HT_.out (by kernel_rfl)) ?_
                    try go_wp2
                    go_ret
                    exact ⟨by first | rfl | (simp [errW_none, errW_some] <;> rfl) | (simp [*, errW_none, errW_some] <;> rfl), by repeat (first | (with_reducible first | exact HB.out | apply below_alloc | apply pw_below_drewN | apply below_drew1 | refine below_set ?_ GE142.out | refine below_set ?_ GE143.out | refine below_set ?_ GE156.out) | exact HB.out)⟩

end Go.Proofs.YtalpehfjjidfhaaDoor.ME
