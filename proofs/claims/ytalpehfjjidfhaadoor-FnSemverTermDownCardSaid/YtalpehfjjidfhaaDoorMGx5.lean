-- Written by a program of this session (wip/tools/myprint.py over the kit's print).
import Derived.Test.YtalpehfjjidfhaaDoorMGx0
import Derived.Test.YtalpehfjjidfhaaDoorMGx1
import Derived.Test.YtalpehfjjidfhaaDoorMGx2
import Derived.Test.YtalpehfjjidfhaaDoorMGx3
import Derived.Test.YtalpehfjjidfhaaDoorMGx4
namespace Go.Proofs.YtalpehfjjidfhaaDoor.MG
open Go.RowKit Go.Proofs.YtalpehfjjidfhaaDoorW.PrintWords Go.Proofs.YtalpehfjjidfhaaDoorW.PrintLast Go.Proofs.YtalpehfjjidfhaaDoorW.PrintMore Go.Proofs.YtalpehfjjidfhaaDoor
attribute [local go_sem] max2_int min2_int max_two min_two max_three min_three max_four min_four   -- for this text's walks alone
set_option linter.unusedVariables false
set_option linter.unusedSimpArgs false

/-! ### laws_FnSemverTermDown: function 16 -/
mutual
def laws_FnSemverTermDown.j0 : Nat → Bool → Int → Int → Int → Int → Int → ByteArray → Int → Int → Int → ByteArray → ByteArray → Int → Int → Int → ByteArray → ByteArray → Option (Bool)
  | 0, _, _, _, _, _, _, _, _, _, _, _, _, _, _, _, _, _ => none
  | k + 1, x19, x167000, x167001, x167002, x167003, x167004, x167005, x168000, x168001, x168002, x168003, x168004, x169000, x169001, x169002, x169003, x169004 => if x19 = true then (some true) else ((spec_GoodTerm.f k x167000 x167001 x167002 x167003 x167004 x167005).bind fun t172 => (if t172 = true then (if x167000 = 3 then ((laws_svGood.f k (([(⟨x168000, x168001, x168002, x168003, x168004⟩ : S29), (⟨x169000, x169001, x169002, x169003, x169004⟩ : S29)] : List (S29)))).bind fun t176 => (if t176 = true then ((spec_Compare.f k x168000 x168001 x168002 x168003 x168004 x169000 x169001 x169002 x169003 x169004).bind fun t177 => (laws_FnSemverTermDown.j1 k (decide (t177 > 0)) x167000 x167001 x167002 x167003 x167004 x167005 x168000 x168001 x168002 x168003 x168004 x169000 x169001 x169002 x169003 x169004)) else (laws_FnSemverTermDown.j1 k true x167000 x167001 x167002 x167003 x167004 x167005 x168000 x168001 x168002 x168003 x168004 x169000 x169001 x169002 x169003 x169004))) else (if x167000 = 5 then ((laws_svGood.f k (([(⟨x168000, x168001, x168002, x168003, x168004⟩ : S29), (⟨x169000, x169001, x169002, x169003, x169004⟩ : S29)] : List (S29)))).bind fun t181 => (if t181 = true then ((spec_Compare.f k x168000 x168001 x168002 x168003 x168004 x169000 x169001 x169002 x169003 x169004).bind fun t182 => (laws_FnSemverTermDown.j1 k (decide (t182 > 0)) x167000 x167001 x167002 x167003 x167004 x167005 x168000 x168001 x168002 x168003 x168004 x169000 x169001 x169002 x169003 x169004)) else (laws_FnSemverTermDown.j1 k true x167000 x167001 x167002 x167003 x167004 x167005 x168000 x168001 x168002 x168003 x168004 x169000 x169001 x169002 x169003 x169004))) else (laws_FnSemverTermDown.j1 k true x167000 x167001 x167002 x167003 x167004 x167005 x168000 x168001 x168002 x168003 x168004 x169000 x169001 x169002 x169003 x169004))) else (laws_FnSemverTermDown.j1 k true x167000 x167001 x167002 x167003 x167004 x167005 x168000 x168001 x168002 x168003 x168004 x169000 x169001 x169002 x169003 x169004)))
def laws_FnSemverTermDown.j1 : Nat → Bool → Int → Int → Int → Int → Int → ByteArray → Int → Int → Int → ByteArray → ByteArray → Int → Int → Int → ByteArray → ByteArray → Option (Bool)
  | 0, _, _, _, _, _, _, _, _, _, _, _, _, _, _, _, _, _ => none
  | k + 1, x45, x167000, x167001, x167002, x167003, x167004, x167005, x168000, x168001, x168002, x168003, x168004, x169000, x169001, x169002, x169003, x169004 => if x45 = true then (some true) else ((Hand.TermDown.f x167000 x167001 x167002 x167003 x167004 x167005 x169000 x169001 x169002 x169003 x169004 true).bind fun t183 => (if t183 = true then ((Hand.TermDown.f x167000 x167001 x167002 x167003 x167004 x167005 x168000 x168001 x168002 x168003 x168004 true).bind fun t184 => (if t184 = true then ((spec_Least.f x167000 x167001 x167002 x167003 x167004 x167005).bind fun bt185 => ((Hand.TermDown.f x167000 x167001 x167002 x167003 x167004 x167005 bt185.1 bt185.2.1 bt185.2.2.1 bt185.2.2.2.1 bt185.2.2.2.2 true).bind fun t190 => (some (t190 == (x167000 == 5))))) else (some false))) else ((spec_Least.f x167000 x167001 x167002 x167003 x167004 x167005).bind fun bt191 => ((Hand.TermDown.f x167000 x167001 x167002 x167003 x167004 x167005 bt191.1 bt191.2.1 bt191.2.2.1 bt191.2.2.2.1 bt191.2.2.2.2 true).bind fun t196 => (some (t196 == (x167000 == 5)))))))
end
def laws_FnSemverTermDown.f (k : Nat) (a0_0 : Int) (a0_1 : Int) (a0_2 : Int) (a0_3 : Int) (a0_4 : Int) (a0_5 : ByteArray) (a1_0 : Int) (a1_1 : Int) (a1_2 : Int) (a1_3 : ByteArray) (a1_4 : ByteArray) (a2_0 : Int) (a2_1 : Int) (a2_2 : Int) (a2_3 : ByteArray) (a2_4 : ByteArray) : Option (Bool) := (laws_zzFits13.f a0_0 a0_1 a0_2 a0_3 a0_4 a0_5).bind fun t169 => (if t169 = true then ((laws_zzFits14.f a1_0 a1_1 a1_2 a1_3 a1_4).bind fun t170 => (if t170 = true then ((laws_zzFits14.f a2_0 a2_1 a2_2 a2_3 a2_4).bind fun t171 => (laws_FnSemverTermDown.j0 k (!t171) a0_0 a0_1 a0_2 a0_3 a0_4 a0_5 a1_0 a1_1 a1_2 a1_3 a1_4 a2_0 a2_1 a2_2 a2_3 a2_4)) else (laws_FnSemverTermDown.j0 k true a0_0 a0_1 a0_2 a0_3 a0_4 a0_5 a1_0 a1_1 a1_2 a1_3 a1_4 a2_0 a2_1 a2_2 a2_3 a2_4))) else (laws_FnSemverTermDown.j0 k true a0_0 a0_1 a0_2 a0_3 a0_4 a0_5 a1_0 a1_1 a1_2 a1_3 a1_4 a2_0 a2_1 a2_2 a2_3 a2_4))
theorem laws_FnSemverTermDown.mono_l : ∀ k, (∀ y0 y1 y2 y3 y4 y5 y6 y7 y8 y9 y10 y11 y12 y13 y14 y15 y16, LeO (laws_FnSemverTermDown.j0 k y0 y1 y2 y3 y4 y5 y6 y7 y8 y9 y10 y11 y12 y13 y14 y15 y16) (laws_FnSemverTermDown.j0 (k + 1) y0 y1 y2 y3 y4 y5 y6 y7 y8 y9 y10 y11 y12 y13 y14 y15 y16)) ∧ (∀ y0 y1 y2 y3 y4 y5 y6 y7 y8 y9 y10 y11 y12 y13 y14 y15 y16, LeO (laws_FnSemverTermDown.j1 k y0 y1 y2 y3 y4 y5 y6 y7 y8 y9 y10 y11 y12 y13 y14 y15 y16) (laws_FnSemverTermDown.j1 (k + 1) y0 y1 y2 y3 y4 y5 y6 y7 y8 y9 y10 y11 y12 y13 y14 y15 y16))
  | 0 => ⟨fun _ _ _ _ _ _ _ _ _ _ _ _ _ _ _ _ _ r h => by simp [laws_FnSemverTermDown.j0] at h, fun _ _ _ _ _ _ _ _ _ _ _ _ _ _ _ _ _ r h => by simp [laws_FnSemverTermDown.j1] at h⟩
  | k + 1 => by
    obtain ⟨ih0, ih1⟩ := laws_FnSemverTermDown.mono_l k
    refine ⟨?_, ?_⟩
    · intro y0 y1 y2 y3 y4 y5 y6 y7 y8 y9 y10 y11 y12 y13 y14 y15 y16
      unfold laws_FnSemverTermDown.j0
      repeat' first
      | (with_reducible exact ih0 _ _ _ _ _ _ _ _ _ _ _ _ _ _ _ _ _)
      | (with_reducible exact ih1 _ _ _ _ _ _ _ _ _ _ _ _ _ _ _ _ _)
      | (with_reducible exact laws_svGood.mono _ _)
      | (with_reducible exact spec_Compare.mono _ _ _ _ _ _ _ _ _ _ _)
      | (with_reducible exact spec_GoodTerm.mono _ _ _ _ _ _ _)
      | (with_reducible exact LeO.refl _)
      | (with_reducible exact LeO.none _)
      | (with_reducible refine LeO.ite ?_ ?_)
      | (with_reducible refine LeO.bind ?_ (fun _ => ?_))
      | exact ih0 _ _ _ _ _ _ _ _ _ _ _ _ _ _ _ _ _
      | exact ih1 _ _ _ _ _ _ _ _ _ _ _ _ _ _ _ _ _
      | exact laws_svGood.mono _ _
      | exact spec_Compare.mono _ _ _ _ _ _ _ _ _ _ _
      | exact spec_GoodTerm.mono _ _ _ _ _ _ _
      | exact LeO.none _
      | refine LeO.ite ?_ ?_
      | refine LeO.bind ?_ (fun _ => ?_)
    · intro y0 y1 y2 y3 y4 y5 y6 y7 y8 y9 y10 y11 y12 y13 y14 y15 y16
      unfold laws_FnSemverTermDown.j1
      repeat' first
      | (with_reducible exact ih0 _ _ _ _ _ _ _ _ _ _ _ _ _ _ _ _ _)
      | (with_reducible exact ih1 _ _ _ _ _ _ _ _ _ _ _ _ _ _ _ _ _)
      | (with_reducible exact laws_svGood.mono _ _)
      | (with_reducible exact spec_Compare.mono _ _ _ _ _ _ _ _ _ _ _)
      | (with_reducible exact spec_GoodTerm.mono _ _ _ _ _ _ _)
      | (with_reducible exact LeO.refl _)
      | (with_reducible exact LeO.none _)
      | (with_reducible refine LeO.ite ?_ ?_)
      | (with_reducible refine LeO.bind ?_ (fun _ => ?_))
      | exact ih0 _ _ _ _ _ _ _ _ _ _ _ _ _ _ _ _ _
      | exact ih1 _ _ _ _ _ _ _ _ _ _ _ _ _ _ _ _ _
      | exact laws_svGood.mono _ _
      | exact spec_Compare.mono _ _ _ _ _ _ _ _ _ _ _
      | exact spec_GoodTerm.mono _ _ _ _ _ _ _
      | exact LeO.none _
      | refine LeO.ite ?_ ?_
      | refine LeO.bind ?_ (fun _ => ?_)
theorem laws_FnSemverTermDown.mono : ∀ a0 a1 a2 a3 a4 a5 a6 a7 a8 a9 a10 a11 a12 a13 a14 a15 k, LeO (laws_FnSemverTermDown.f k a0 a1 a2 a3 a4 a5 a6 a7 a8 a9 a10 a11 a12 a13 a14 a15) (laws_FnSemverTermDown.f (k + 1) a0 a1 a2 a3 a4 a5 a6 a7 a8 a9 a10 a11 a12 a13 a14 a15) := by
  intro a0 a1 a2 a3 a4 a5 a6 a7 a8 a9 a10 a11 a12 a13 a14 a15 k
  obtain ⟨ih0, ih1⟩ := laws_FnSemverTermDown.mono_l k
  unfold laws_FnSemverTermDown.f
  repeat' first
      | (with_reducible exact ih0 _ _ _ _ _ _ _ _ _ _ _ _ _ _ _ _ _)
      | (with_reducible exact ih1 _ _ _ _ _ _ _ _ _ _ _ _ _ _ _ _ _)
      | (with_reducible exact laws_svGood.mono _ _)
      | (with_reducible exact spec_Compare.mono _ _ _ _ _ _ _ _ _ _ _)
      | (with_reducible exact spec_GoodTerm.mono _ _ _ _ _ _ _)
      | (with_reducible exact LeO.refl _)
      | (with_reducible exact LeO.none _)
      | (with_reducible refine LeO.ite ?_ ?_)
      | (with_reducible refine LeO.bind ?_ (fun _ => ?_))
      | exact ih0 _ _ _ _ _ _ _ _ _ _ _ _ _ _ _ _ _
      | exact ih1 _ _ _ _ _ _ _ _ _ _ _ _ _ _ _ _ _
      | exact laws_svGood.mono _ _
      | exact spec_Compare.mono _ _ _ _ _ _ _ _ _ _ _
      | exact spec_GoodTerm.mono _ _ _ _ _ _ _
      | exact LeO.none _
      | refine LeO.ite ?_ ?_
      | refine LeO.bind ?_ (fun _ => ?_)
def laws_FnSemverTermDown.T5 : Bool × List (List Nat × List Nat) := (true, [([], []), ([], []), ([0, 1], [0, 1]), ([2], [2]), ([3, 2], [3]), ([4], [4]), ([4], [4]), ([5, 6, 4, 4], [4, 5, 6]), ([4, 7], [4, 7]), ([8, 7], [8]), ([9], [9]), ([9], [9]), ([11, 9, 9], [9, 11]), ([10, 12, 12, 9], [9, 10, 12]), ([9], [9]), ([14, 9], [9, 14]), ([15, 9], [9, 15]), ([13, 16, 9], [9, 13, 16]), ([9, 17], [9, 17]), ([18, 13, 0, 1, 2, 3, 4, 5, 6, 7, 8, 9, 10, 11, 12, 13, 14, 15, 16, 17, 18], [18])])
def laws_FnSemverTermDown.B5 : List Nat := [0, 0, 3, 7, 15, 31, 31, 127, 255, 511, 1023, 1023, 3071, 8191, 1023, 17407, 50175, 131071, 262143, 524287]
theorem laws_FnSemverTermDown.tab5 : rtab .any (opsOf Tryd.f16 5) = laws_FnSemverTermDown.T5 := by kernel_rfl
theorem laws_FnSemverTermDown.bits5 : waitsOk laws_FnSemverTermDown.T5.2 laws_FnSemverTermDown.B5 = true := by kernel_rfl
set_option maxHeartbeats 8000000 in
set_option maxRecDepth 100000 in
theorem laws_FnSemverTermDown.calls (k : Nat) (a0_0 : Int) (a0_1 : Int) (a0_2 : Int) (a0_3 : Int) (a0_4 : Int) (a0_5 : ByteArray) (a1_0 : Int) (a1_1 : Int) (a1_2 : Int) (a1_3 : ByteArray) (a1_4 : ByteArray) (a2_0 : Int) (a2_1 : Int) (a2_2 : Int) (a2_3 : ByteArray) (a2_4 : ByteArray) (r : Bool) (w : World) (hG0 : Hand.Gl w) (h : laws_FnSemverTermDown.f k a0_0 a0_1 a0_2 a0_3 a0_4 a0_5 a1_0 a1_1 a1_2 a1_3 a1_4 a2_0 a2_1 a2_2 a2_3 a2_4 = some r) :
    Calls Tryd.prog 16 #[.agg #[.int .i64 a0_0, .int .i64 a0_1, .int .u64 a0_2, .int .u64 a0_3, .int .u64 a0_4, .string a0_5], .agg #[.int .u64 a1_0, .int .u64 a1_1, .int .u64 a1_2, .string a1_3, .string a1_4], .agg #[.int .u64 a2_0, .int .u64 a2_1, .int .u64 a2_2, .string a2_3, .string a2_4]] w fun e w' => e = .returned (.bool r) ∧ Below w.heap.size w w' := by
  have HG := Aside0.mk hG0
  clear hG0
  have hu42 := Tryd.underlying42
  have hu29 := Tryd.underlying29
  have HB := Aside0.mk (Below.refl w.heap.size w)
  have H : ((laws_zzFits13.f a0_0 a0_1 a0_2 a0_3 a0_4 a0_5).bind fun t169 => (if t169 = true then ((laws_zzFits14.f a1_0 a1_1 a1_2 a1_3 a1_4).bind fun t170 => (if t170 = true then ((laws_zzFits14.f a2_0 a2_1 a2_2 a2_3 a2_4).bind fun t171 => (laws_FnSemverTermDown.j0 k (!t171) a0_0 a0_1 a0_2 a0_3 a0_4 a0_5 a1_0 a1_1 a1_2 a1_3 a1_4 a2_0 a2_1 a2_2 a2_3 a2_4)) else (laws_FnSemverTermDown.j0 k true a0_0 a0_1 a0_2 a0_3 a0_4 a0_5 a1_0 a1_1 a1_2 a1_3 a1_4 a2_0 a2_1 a2_2 a2_3 a2_4))) else (laws_FnSemverTermDown.j0 k true a0_0 a0_1 a0_2 a0_3 a0_4 a0_5 a1_0 a1_1 a1_2 a1_3 a1_4 a2_0 a2_1 a2_2 a2_3 a2_4))) = some r := h
  clear h
  have HC4 := Aside0.mk H
  clear H
  go_enter Tryd.func16, Tryd.ntmps16
  go_upto_region 1 with (first | ((with_reducible refine gate_dst (N := 3) rfl ?_); (try (refine gate_guard (by rfl) ?_; dsimp only)); refine box_event ?hg (N := 3) ?hd (cs := #[.int .i64 a0_0, .int .i64 a0_1, .int .u64 a0_2, .int .u64 a0_3, .int .u64 a0_4, .string a0_5]) (t := 42) ?hr ?_; (case hd => rfl); (case hg => rfl); (case hr => first | (go_simp; done) | (go_simp; rfl)); intro gb166 hg w5 hbox hb; have n0_ := Aside0.mk (below_step (by repeat (first | (with_reducible first | exact HB.out | apply below_alloc | apply pw_below_drewN | apply below_drew1) | exact HB.out)) hb); have n1_ := Aside0.mk (hbox); have n2_ := Aside0.mk ((by rw [hg]; exact (below_size (by repeat (first | (with_reducible first | exact HB.out | apply below_alloc | apply pw_below_drewN | apply below_drew1) | exact HB.out))) : w.heap.size ≤ gb166)); have n3_ := Aside0.mk ((by rw [hg]; exact (below_size (by repeat (first | (with_reducible first | exact HB.out | apply below_alloc | apply pw_below_drewN | apply below_drew1) | exact HB.out))) : w.heap.size ≤ gb166)); clear HB; have HB := n0_; have BK166 := n1_; have GW166 := n2_; have GE166 := n3_; clear n0_ n1_ n2_ n3_; clear hb hbox hg) | ((with_reducible refine gate_dst (N := 4) rfl ?_); (try (refine gate_guard (by rfl) ?_; dsimp only)); refine box_event ?hg (N := 4) ?hd (cs := #[.int .u64 a1_0, .int .u64 a1_1, .int .u64 a1_2, .string a1_3, .string a1_4]) (t := 29) ?hr ?_; (case hd => rfl); (case hg => rfl); (case hr => first | (go_simp; done) | (go_simp; rfl)); intro gb167 hg w6 hbox hb; have n0_ := Aside0.mk (blk_below (g := gb166) (o := .cells #[.int .i64 a0_0, .int .i64 a0_1, .int .u64 a0_2, .int .u64 a0_3, .int .u64 a0_4, .string a0_5] 42 (0, 0)) (by (with_reducible repeat (first | refine blk_drewN ?_ _ | refine blk_drew ?_ | refine blk_alloc ?_ _)); exact BK166.out) hb); have n1_ := Aside0.mk (below_step (by repeat (first | (with_reducible first | exact HB.out | apply below_alloc | apply pw_below_drewN | apply below_drew1 | refine below_set ?_ GE166.out) | exact HB.out)) hb); have n2_ := Aside0.mk (hbox); have n3_ := Aside0.mk ((by rw [hg]; exact (below_size (by repeat (first | (with_reducible first | exact HB.out | apply below_alloc | apply pw_below_drewN | apply below_drew1 | refine below_set ?_ GE166.out) | exact HB.out))) : w.heap.size ≤ gb167)); have n4_ := Aside0.mk ((by rw [hg]; exact (below_size (by repeat (first | (with_reducible first | exact HB.out | apply below_alloc | apply pw_below_drewN | apply below_drew1 | refine below_set ?_ GE166.out) | exact HB.out))) : w.heap.size ≤ gb167)); have n5_ := Aside0.mk ((by rw [hg]; exact Nat.ne_of_lt (blk_lt (g := gb166) (o := .cells #[.int .i64 a0_0, .int .i64 a0_1, .int .u64 a0_2, .int .u64 a0_3, .int .u64 a0_4, .string a0_5] 42 (0, 0)) (by (with_reducible repeat (first | refine blk_drewN ?_ _ | refine blk_drew ?_ | refine blk_alloc ?_ _)); exact BK166.out)) : gb166 ≠ gb167)); have n6_ := Aside0.mk ((by rw [hg]; exact Nat.ne_of_gt (blk_lt (g := gb166) (o := .cells #[.int .i64 a0_0, .int .i64 a0_1, .int .u64 a0_2, .int .u64 a0_3, .int .u64 a0_4, .string a0_5] 42 (0, 0)) (by (with_reducible repeat (first | refine blk_drewN ?_ _ | refine blk_drew ?_ | refine blk_alloc ?_ _)); exact BK166.out)) : gb167 ≠ gb166)); clear BK166; clear HB; have BK166 := n0_; have HB := n1_; have BK167 := n2_; have GW167 := n3_; have GE167 := n4_; have NB166_167 := n5_; have NB167_166 := n6_; clear n0_ n1_ n2_ n3_ n4_ n5_ n6_; clear hb hbox hg) | ((with_reducible refine gate_dst (N := 5) rfl ?_); (try (refine gate_guard (by rfl) ?_; dsimp only)); refine box_event ?hg (N := 5) ?hd (cs := #[.int .u64 a2_0, .int .u64 a2_1, .int .u64 a2_2, .string a2_3, .string a2_4]) (t := 29) ?hr ?_; (case hd => rfl); (case hg => rfl); (case hr => first | (go_simp; done) | (go_simp; rfl)); intro gb168 hg w7 hbox hb; have n0_ := Aside0.mk (blk_below (g := gb166) (o := .cells #[.int .i64 a0_0, .int .i64 a0_1, .int .u64 a0_2, .int .u64 a0_3, .int .u64 a0_4, .string a0_5] 42 (0, 0)) (by (with_reducible repeat (first | refine blk_drewN ?_ _ | refine blk_drew ?_ | refine blk_alloc ?_ _)); exact BK166.out) hb); have n1_ := Aside0.mk (blk_below (g := gb167) (o := .cells #[.int .u64 a1_0, .int .u64 a1_1, .int .u64 a1_2, .string a1_3, .string a1_4] 29 (0, 0)) (by (with_reducible repeat (first | refine blk_drewN ?_ _ | refine blk_drew ?_ | refine blk_alloc ?_ _)); exact BK167.out) hb); have n2_ := Aside0.mk (below_step (by repeat (first | (with_reducible first | exact HB.out | apply below_alloc | apply pw_below_drewN | apply below_drew1 | refine below_set ?_ GE166.out | refine below_set ?_ GE167.out) | exact HB.out)) hb); have n3_ := Aside0.mk (hbox); have n4_ := Aside0.mk ((by rw [hg]; exact (below_size (by repeat (first | (with_reducible first | exact HB.out | apply below_alloc | apply pw_below_drewN | apply below_drew1 | refine below_set ?_ GE166.out | refine below_set ?_ GE167.out) | exact HB.out))) : w.heap.size ≤ gb168)); have n5_ := Aside0.mk ((by rw [hg]; exact (below_size (by repeat (first | (with_reducible first | exact HB.out | apply below_alloc | apply pw_below_drewN | apply below_drew1 | refine below_set ?_ GE166.out | refine below_set ?_ GE167.out) | exact HB.out))) : w.heap.size ≤ gb168)); have n6_ := Aside0.mk ((by rw [hg]; exact Nat.ne_of_lt (blk_lt (g := gb166) (o := .cells #[.int .i64 a0_0, .int .i64 a0_1, .int .u64 a0_2, .int .u64 a0_3, .int .u64 a0_4, .string a0_5] 42 (0, 0)) (by (with_reducible repeat (first | refine blk_drewN ?_ _ | refine blk_drew ?_ | refine blk_alloc ?_ _)); exact BK166.out)) : gb166 ≠ gb168)); have n7_ := Aside0.mk ((by rw [hg]; exact Nat.ne_of_gt (blk_lt (g := gb166) (o := .cells #[.int .i64 a0_0, .int .i64 a0_1, .int .u64 a0_2, .int .u64 a0_3, .int .u64 a0_4, .string a0_5] 42 (0, 0)) (by (with_reducible repeat (first | refine blk_drewN ?_ _ | refine blk_drew ?_ | refine blk_alloc ?_ _)); exact BK166.out)) : gb168 ≠ gb166)); have n8_ := Aside0.mk ((by rw [hg]; exact Nat.ne_of_lt (blk_lt (g := gb167) (o := .cells #[.int .u64 a1_0, .int .u64 a1_1, .int .u64 a1_2, .string a1_3, .string a1_4] 29 (0, 0)) (by (with_reducible repeat (first | refine blk_drewN ?_ _ | refine blk_drew ?_ | refine blk_alloc ?_ _)); exact BK167.out)) : gb167 ≠ gb168)); have n9_ := Aside0.mk ((by rw [hg]; exact Nat.ne_of_gt (blk_lt (g := gb167) (o := .cells #[.int .u64 a1_0, .int .u64 a1_1, .int .u64 a1_2, .string a1_3, .string a1_4] 29 (0, 0)) (by (with_reducible repeat (first | refine blk_drewN ?_ _ | refine blk_drew ?_ | refine blk_alloc ?_ _)); exact BK167.out)) : gb168 ≠ gb167)); clear BK166; clear BK167; clear HB; have BK166 := n0_; have BK167 := n1_; have HB := n2_; have BK168 := n3_; have GW168 := n4_; have GE168 := n5_; have NB166_168 := n6_; have NB168_166 := n7_; have NB167_168 := n8_; have NB168_167 := n9_; clear n0_ n1_ n2_ n3_ n4_ n5_ n6_ n7_ n8_ n9_; clear hb hbox hg))
  (try simp only [Act.put, List.setIfInBounds_toArray, List.set_cons_zero, List.set_cons_succ])
  go_cut [19] (fun v19 wc => ∃ (kq : Nat) (x19_3 : Bool), v19 = .bool x19_3 ∧ Aside0 (laws_FnSemverTermDown.j0 kq x19_3 a0_0 a0_1 a0_2 a0_3 a0_4 a0_5 a1_0 a1_1 a1_2 a1_3 a1_4 a2_0 a2_1 a2_2 a2_3 a2_4 = some r) ∧ Aside0 (kq ≤ k) ∧ Aside0 (wc.heap[gb166]? = some (.cells #[.int .i64 a0_0, .int .i64 a0_1, .int .u64 a0_2, .int .u64 a0_3, .int .u64 a0_4, .string a0_5] 42 (0, 0))) ∧ Aside0 (wc.heap[gb167]? = some (.cells #[.int .u64 a1_0, .int .u64 a1_1, .int .u64 a1_2, .string a1_3, .string a1_4] 29 (0, 0))) ∧ Aside0 (wc.heap[gb168]? = some (.cells #[.int .u64 a2_0, .int .u64 a2_1, .int .u64 a2_2, .string a2_3, .string a2_4] 29 (0, 0))) ∧ Aside0 (Below w.heap.size w wc))
  case first =>
    have H := HC4.out
    clear HC4
    replace H := Option.bind_eq_some_iff.mp H
    obtain ⟨t169, A80, H⟩ := H
    replace H : (if t169 = true then ((laws_zzFits14.f a1_0 a1_1 a1_2 a1_3 a1_4).bind fun t170 => (if t170 = true then ((laws_zzFits14.f a2_0 a2_1 a2_2 a2_3 a2_4).bind fun t171 => (laws_FnSemverTermDown.j0 k (!t171) a0_0 a0_1 a0_2 a0_3 a0_4 a0_5 a1_0 a1_1 a1_2 a1_3 a1_4 a2_0 a2_1 a2_2 a2_3 a2_4)) else (laws_FnSemverTermDown.j0 k true a0_0 a0_1 a0_2 a0_3 a0_4 a0_5 a1_0 a1_1 a1_2 a1_3 a1_4 a2_0 a2_1 a2_2 a2_3 a2_4))) else (laws_FnSemverTermDown.j0 k true a0_0 a0_1 a0_2 a0_3 a0_4 a0_5 a1_0 a1_1 a1_2 a1_3 a1_4 a2_0 a2_1 a2_2 a2_3 a2_4)) = some r := H
    have A8 := Aside0.mk A80
    clear A80
    by_cases c9 : t169 = true
    · subst c9
      have H1 : ((laws_zzFits14.f a1_0 a1_1 a1_2 a1_3 a1_4).bind fun t170 => (if t170 = true then ((laws_zzFits14.f a2_0 a2_1 a2_2 a2_3 a2_4).bind fun t171 => (laws_FnSemverTermDown.j0 k (!t171) a0_0 a0_1 a0_2 a0_3 a0_4 a0_5 a1_0 a1_1 a1_2 a1_3 a1_4 a2_0 a2_1 a2_2 a2_3 a2_4)) else (laws_FnSemverTermDown.j0 k true a0_0 a0_1 a0_2 a0_3 a0_4 a0_5 a1_0 a1_1 a1_2 a1_3 a1_4 a2_0 a2_1 a2_2 a2_3 a2_4))) = some r := by rw [if_pos rfl] at H; exact H
      clear H
      have H := H1
      clear H1
      replace H := Option.bind_eq_some_iff.mp H
      obtain ⟨t170, A100, H⟩ := H
      replace H : (if t170 = true then ((laws_zzFits14.f a2_0 a2_1 a2_2 a2_3 a2_4).bind fun t171 => (laws_FnSemverTermDown.j0 k (!t171) a0_0 a0_1 a0_2 a0_3 a0_4 a0_5 a1_0 a1_1 a1_2 a1_3 a1_4 a2_0 a2_1 a2_2 a2_3 a2_4)) else (laws_FnSemverTermDown.j0 k true a0_0 a0_1 a0_2 a0_3 a0_4 a0_5 a1_0 a1_1 a1_2 a1_3 a1_4 a2_0 a2_1 a2_2 a2_3 a2_4)) = some r := H
      have A10 := Aside0.mk A100
      clear A100
      by_cases c11 : t170 = true
      · subst c11
        have H1 : ((laws_zzFits14.f a2_0 a2_1 a2_2 a2_3 a2_4).bind fun t171 => (laws_FnSemverTermDown.j0 k (!t171) a0_0 a0_1 a0_2 a0_3 a0_4 a0_5 a1_0 a1_1 a1_2 a1_3 a1_4 a2_0 a2_1 a2_2 a2_3 a2_4)) = some r := by rw [if_pos rfl] at H; exact H
        clear H
        have H := H1
        clear H1
        replace H := Option.bind_eq_some_iff.mp H
        obtain ⟨t171, A120, H⟩ := H
        replace H : (laws_FnSemverTermDown.j0 k (!t171) a0_0 a0_1 a0_2 a0_3 a0_4 a0_5 a1_0 a1_1 a1_2 a1_3 a1_4 a2_0 a2_1 a2_2 a2_3 a2_4) = some r := H
        have A12 := Aside0.mk A120
        clear A120
        have H' := Aside0.mk H
        clear H
        have hnb13 := NB166_167.out
        have hnc13 := NB167_166.out
        have hnb14 := NB166_168.out
        have hnc14 := NB168_166.out
        have hcz15_0 : w7.cell? ⟨gb166, 0, none⟩ = some (.int .i64 a0_0) := (blk_cell BK166.out 0).trans rfl
        have hcz15_1 : w7.cell? ⟨gb166, 1, none⟩ = some (.int .i64 a0_1) := (blk_cell BK166.out 1).trans rfl
        have hcz15_2 : w7.cell? ⟨gb166, 2, none⟩ = some (.int .u64 a0_2) := (blk_cell BK166.out 2).trans rfl
        have hcz15_3 : w7.cell? ⟨gb166, 3, none⟩ = some (.int .u64 a0_3) := (blk_cell BK166.out 3).trans rfl
        have hcz15_4 : w7.cell? ⟨gb166, 4, none⟩ = some (.int .u64 a0_4) := (blk_cell BK166.out 4).trans rfl
        have hcz15_5 : w7.cell? ⟨gb166, 5, none⟩ = some (.string a0_5) := (blk_cell BK166.out 5).trans rfl
        have hfz15_0 := blk_frozen BK166.out 0
        have hfz15_1 := blk_frozen BK166.out 1
        have hfz15_2 := blk_frozen BK166.out 2
        have hfz15_3 := blk_frozen BK166.out 3
        have hfz15_4 := blk_frozen BK166.out 4
        have hfz15_5 := blk_frozen BK166.out 5
        go_wp2_with (first | ((with_reducible refine gate_callee (f := 36) rfl ?_); refine goesL_ (some 8) rfl rfl Tryd.func36 (by kernel_rfl) rfl #[.agg #[.int .i64 a0_0, .int .i64 a0_1, .int .u64 a0_2, .int .u64 a0_3, .int .u64 a0_4, .string a0_5]] rfl (by (try simp only [List.map_toArray, List.map_cons, List.map_nil]); first | done | rfl | (simp only [List.length_drop, List.length_take]; rfl)) ?_; (with_reducible refine (laws_zzFits13.calls a0_0 a0_1 a0_2 a0_3 a0_4 a0_5 true _ A8.out).mono ?_); rintro e w16 ⟨rfl, hb⟩; refine ⟨_, rfl, ?_⟩; have n0_ := Aside0.mk (blk_below (g := gb166) (o := .cells #[.int .i64 a0_0, .int .i64 a0_1, .int .u64 a0_2, .int .u64 a0_3, .int .u64 a0_4, .string a0_5] 42 (0, 0)) (by (with_reducible repeat (first | refine blk_drewN ?_ _ | refine blk_drew ?_ | refine blk_alloc ?_ _)); exact BK166.out) hb); have n1_ := Aside0.mk (blk_below (g := gb167) (o := .cells #[.int .u64 a1_0, .int .u64 a1_1, .int .u64 a1_2, .string a1_3, .string a1_4] 29 (0, 0)) (by (with_reducible repeat (first | refine blk_drewN ?_ _ | refine blk_drew ?_ | refine blk_alloc ?_ _)); exact BK167.out) hb); have n2_ := Aside0.mk (blk_below (g := gb168) (o := .cells #[.int .u64 a2_0, .int .u64 a2_1, .int .u64 a2_2, .string a2_3, .string a2_4] 29 (0, 0)) (by (with_reducible repeat (first | refine blk_drewN ?_ _ | refine blk_drew ?_ | refine blk_alloc ?_ _)); exact BK168.out) hb); have n3_ := Aside0.mk (below_step (by repeat (first | (with_reducible first | exact HB.out | apply below_alloc | apply pw_below_drewN | apply below_drew1 | refine below_set ?_ GE166.out | refine below_set ?_ GE167.out | refine below_set ?_ GE168.out) | exact HB.out)) hb); clear BK166; clear BK167; clear BK168; clear HB; have BK166 := n0_; have BK167 := n1_; have BK168 := n2_; have HB := n3_; clear n0_ n1_ n2_ n3_; (try clear hb); (try clear hb2); (try clear hk); (try clear hi); have hnb17 := NB167_168.out; have hnc17 := NB168_167.out; have hcz18_0 : w16.cell? ⟨gb167, 0, none⟩ = some (.int .u64 a1_0) := (blk_cell BK167.out 0).trans rfl; have hcz18_1 : w16.cell? ⟨gb167, 1, none⟩ = some (.int .u64 a1_1) := (blk_cell BK167.out 1).trans rfl; have hcz18_2 : w16.cell? ⟨gb167, 2, none⟩ = some (.int .u64 a1_2) := (blk_cell BK167.out 2).trans rfl; have hcz18_3 : w16.cell? ⟨gb167, 3, none⟩ = some (.string a1_3) := (blk_cell BK167.out 3).trans rfl; have hcz18_4 : w16.cell? ⟨gb167, 4, none⟩ = some (.string a1_4) := (blk_cell BK167.out 4).trans rfl; have hfz18_0 := blk_frozen BK167.out 0; have hfz18_1 := blk_frozen BK167.out 1; have hfz18_2 := blk_frozen BK167.out 2; have hfz18_3 := blk_frozen BK167.out 3; have hfz18_4 := blk_frozen BK167.out 4) | (go_at_call 25; (with_reducible refine (laws_zzFits14.calls a1_0 a1_1 a1_2 a1_3 a1_4 true _ A10.out).mono ?_); rintro e w19 ⟨rfl, hb⟩; have n0_ := Aside0.mk (blk_below (g := gb166) (o := .cells #[.int .i64 a0_0, .int .i64 a0_1, .int .u64 a0_2, .int .u64 a0_3, .int .u64 a0_4, .string a0_5] 42 (0, 0)) (by (with_reducible repeat (first | refine blk_drewN ?_ _ | refine blk_drew ?_ | refine blk_alloc ?_ _)); exact BK166.out) hb); have n1_ := Aside0.mk (blk_below (g := gb167) (o := .cells #[.int .u64 a1_0, .int .u64 a1_1, .int .u64 a1_2, .string a1_3, .string a1_4] 29 (0, 0)) (by (with_reducible repeat (first | refine blk_drewN ?_ _ | refine blk_drew ?_ | refine blk_alloc ?_ _)); exact BK167.out) hb); have n2_ := Aside0.mk (blk_below (g := gb168) (o := .cells #[.int .u64 a2_0, .int .u64 a2_1, .int .u64 a2_2, .string a2_3, .string a2_4] 29 (0, 0)) (by (with_reducible repeat (first | refine blk_drewN ?_ _ | refine blk_drew ?_ | refine blk_alloc ?_ _)); exact BK168.out) hb); have n3_ := Aside0.mk (below_step (by repeat (first | (with_reducible first | exact HB.out | apply below_alloc | apply pw_below_drewN | apply below_drew1 | refine below_set ?_ GE166.out | refine below_set ?_ GE167.out | refine below_set ?_ GE168.out) | exact HB.out)) hb); clear BK166; clear BK167; clear BK168; clear HB; have BK166 := n0_; have BK167 := n1_; have BK168 := n2_; have HB := n3_; clear n0_ n1_ n2_ n3_; (try clear hb); (try clear hb2); (try clear hk); (try clear hi); have hcz20_0 : w19.cell? ⟨gb168, 0, none⟩ = some (.int .u64 a2_0) := (blk_cell BK168.out 0).trans rfl; have hcz20_1 : w19.cell? ⟨gb168, 1, none⟩ = some (.int .u64 a2_1) := (blk_cell BK168.out 1).trans rfl; have hcz20_2 : w19.cell? ⟨gb168, 2, none⟩ = some (.int .u64 a2_2) := (blk_cell BK168.out 2).trans rfl; have hcz20_3 : w19.cell? ⟨gb168, 3, none⟩ = some (.string a2_3) := (blk_cell BK168.out 3).trans rfl; have hcz20_4 : w19.cell? ⟨gb168, 4, none⟩ = some (.string a2_4) := (blk_cell BK168.out 4).trans rfl; have hfz20_0 := blk_frozen BK168.out 0; have hfz20_1 := blk_frozen BK168.out 1; have hfz20_2 := blk_frozen BK168.out 2; have hfz20_3 := blk_frozen BK168.out 3; have hfz20_4 := blk_frozen BK168.out 4) | (go_at_call 25; (with_reducible refine (laws_zzFits14.calls a2_0 a2_1 a2_2 a2_3 a2_4 t171 _ A12.out).mono ?_); rintro e w21 ⟨rfl, hb⟩; have n0_ := Aside0.mk (blk_below (g := gb166) (o := .cells #[.int .i64 a0_0, .int .i64 a0_1, .int .u64 a0_2, .int .u64 a0_3, .int .u64 a0_4, .string a0_5] 42 (0, 0)) (by (with_reducible repeat (first | refine blk_drewN ?_ _ | refine blk_drew ?_ | refine blk_alloc ?_ _)); exact BK166.out) hb); have n1_ := Aside0.mk (blk_below (g := gb167) (o := .cells #[.int .u64 a1_0, .int .u64 a1_1, .int .u64 a1_2, .string a1_3, .string a1_4] 29 (0, 0)) (by (with_reducible repeat (first | refine blk_drewN ?_ _ | refine blk_drew ?_ | refine blk_alloc ?_ _)); exact BK167.out) hb); have n2_ := Aside0.mk (blk_below (g := gb168) (o := .cells #[.int .u64 a2_0, .int .u64 a2_1, .int .u64 a2_2, .string a2_3, .string a2_4] 29 (0, 0)) (by (with_reducible repeat (first | refine blk_drewN ?_ _ | refine blk_drew ?_ | refine blk_alloc ?_ _)); exact BK168.out) hb); have n3_ := Aside0.mk (below_step (by repeat (first | (with_reducible first | exact HB.out | apply below_alloc | apply pw_below_drewN | apply below_drew1 | refine below_set ?_ GE166.out | refine below_set ?_ GE167.out | refine below_set ?_ GE168.out) | exact HB.out)) hb); clear BK166; clear BK167; clear BK168; clear HB; have BK166 := n0_; have BK167 := n1_; have BK168 := n2_; have HB := n3_; clear n0_ n1_ n2_ n3_; (try clear hb); (try clear hb2); (try clear hk); (try clear hi)))
        go_meet
        case rel => exact ⟨_, (!t171), (by first | rfl | (simp; done) | (simp [*]; done)), H', ⟨by first | omega | exact Nat.le_refl _⟩, ⟨by (with_reducible repeat (first | refine blk_drewN ?_ _ | refine blk_drew ?_ | refine blk_alloc ?_ _)); exact BK166.out⟩, ⟨by (with_reducible repeat (first | refine blk_drewN ?_ _ | refine blk_drew ?_ | refine blk_alloc ?_ _)); exact BK167.out⟩, ⟨by (with_reducible repeat (first | refine blk_drewN ?_ _ | refine blk_drew ?_ | refine blk_alloc ?_ _)); exact BK168.out⟩, ⟨by repeat (first | (with_reducible first | exact HB.out | apply below_alloc | apply pw_below_drewN | apply below_drew1 | refine below_set ?_ GE166.out | refine below_set ?_ GE167.out | refine below_set ?_ GE168.out) | exact HB.out)⟩⟩
      · replace c11 := Bool.eq_false_iff.mpr c11
        subst c11
        have H1 : (laws_FnSemverTermDown.j0 k true a0_0 a0_1 a0_2 a0_3 a0_4 a0_5 a1_0 a1_1 a1_2 a1_3 a1_4 a2_0 a2_1 a2_2 a2_3 a2_4) = some r := by rw [if_neg (show ¬ (false = true) by decide)] at H; exact H
        clear H
        have H := H1
        clear H1
        have H' := Aside0.mk H
        clear H
        have hnb22 := NB166_167.out
        have hnc22 := NB167_166.out
        have hnb23 := NB166_168.out
        have hnc23 := NB168_166.out
        have hcz24_0 : w7.cell? ⟨gb166, 0, none⟩ = some (.int .i64 a0_0) := (blk_cell BK166.out 0).trans rfl
        have hcz24_1 : w7.cell? ⟨gb166, 1, none⟩ = some (.int .i64 a0_1) := (blk_cell BK166.out 1).trans rfl
        have hcz24_2 : w7.cell? ⟨gb166, 2, none⟩ = some (.int .u64 a0_2) := (blk_cell BK166.out 2).trans rfl
        have hcz24_3 : w7.cell? ⟨gb166, 3, none⟩ = some (.int .u64 a0_3) := (blk_cell BK166.out 3).trans rfl
        have hcz24_4 : w7.cell? ⟨gb166, 4, none⟩ = some (.int .u64 a0_4) := (blk_cell BK166.out 4).trans rfl
        have hcz24_5 : w7.cell? ⟨gb166, 5, none⟩ = some (.string a0_5) := (blk_cell BK166.out 5).trans rfl
        have hfz24_0 := blk_frozen BK166.out 0
        have hfz24_1 := blk_frozen BK166.out 1
        have hfz24_2 := blk_frozen BK166.out 2
        have hfz24_3 := blk_frozen BK166.out 3
        have hfz24_4 := blk_frozen BK166.out 4
        have hfz24_5 := blk_frozen BK166.out 5
        go_wp2_with (first | ((with_reducible refine gate_callee (f := 36) rfl ?_); refine goesL_ (some 8) rfl rfl Tryd.func36 (by kernel_rfl) rfl #[.agg #[.int .i64 a0_0, .int .i64 a0_1, .int .u64 a0_2, .int .u64 a0_3, .int .u64 a0_4, .string a0_5]] rfl (by (try simp only [List.map_toArray, List.map_cons, List.map_nil]); first | done | rfl | (simp only [List.length_drop, List.length_take]; rfl)) ?_; (with_reducible refine (laws_zzFits13.calls a0_0 a0_1 a0_2 a0_3 a0_4 a0_5 true _ A8.out).mono ?_); rintro e w25 ⟨rfl, hb⟩; refine ⟨_, rfl, ?_⟩; have n0_ := Aside0.mk (blk_below (g := gb166) (o := .cells #[.int .i64 a0_0, .int .i64 a0_1, .int .u64 a0_2, .int .u64 a0_3, .int .u64 a0_4, .string a0_5] 42 (0, 0)) (by (with_reducible repeat (first | refine blk_drewN ?_ _ | refine blk_drew ?_ | refine blk_alloc ?_ _)); exact BK166.out) hb); have n1_ := Aside0.mk (blk_below (g := gb167) (o := .cells #[.int .u64 a1_0, .int .u64 a1_1, .int .u64 a1_2, .string a1_3, .string a1_4] 29 (0, 0)) (by (with_reducible repeat (first | refine blk_drewN ?_ _ | refine blk_drew ?_ | refine blk_alloc ?_ _)); exact BK167.out) hb); have n2_ := Aside0.mk (blk_below (g := gb168) (o := .cells #[.int .u64 a2_0, .int .u64 a2_1, .int .u64 a2_2, .string a2_3, .string a2_4] 29 (0, 0)) (by (with_reducible repeat (first | refine blk_drewN ?_ _ | refine blk_drew ?_ | refine blk_alloc ?_ _)); exact BK168.out) hb); have n3_ := Aside0.mk (below_step (by repeat (first | (with_reducible first | exact HB.out | apply below_alloc | apply pw_below_drewN | apply below_drew1 | refine below_set ?_ GE166.out | refine below_set ?_ GE167.out | refine below_set ?_ GE168.out) | exact HB.out)) hb); clear BK166; clear BK167; clear BK168; clear HB; have BK166 := n0_; have BK167 := n1_; have BK168 := n2_; have HB := n3_; clear n0_ n1_ n2_ n3_; (try clear hb); (try clear hb2); (try clear hk); (try clear hi); have hnb26 := NB167_168.out; have hnc26 := NB168_167.out; have hcz27_0 : w25.cell? ⟨gb167, 0, none⟩ = some (.int .u64 a1_0) := (blk_cell BK167.out 0).trans rfl; have hcz27_1 : w25.cell? ⟨gb167, 1, none⟩ = some (.int .u64 a1_1) := (blk_cell BK167.out 1).trans rfl; have hcz27_2 : w25.cell? ⟨gb167, 2, none⟩ = some (.int .u64 a1_2) := (blk_cell BK167.out 2).trans rfl; have hcz27_3 : w25.cell? ⟨gb167, 3, none⟩ = some (.string a1_3) := (blk_cell BK167.out 3).trans rfl; have hcz27_4 : w25.cell? ⟨gb167, 4, none⟩ = some (.string a1_4) := (blk_cell BK167.out 4).trans rfl; have hfz27_0 := blk_frozen BK167.out 0; have hfz27_1 := blk_frozen BK167.out 1; have hfz27_2 := blk_frozen BK167.out 2; have hfz27_3 := blk_frozen BK167.out 3; have hfz27_4 := blk_frozen BK167.out 4) | (go_at_call 25; (with_reducible refine (laws_zzFits14.calls a1_0 a1_1 a1_2 a1_3 a1_4 false _ A10.out).mono ?_); rintro e w28 ⟨rfl, hb⟩; have n0_ := Aside0.mk (blk_below (g := gb166) (o := .cells #[.int .i64 a0_0, .int .i64 a0_1, .int .u64 a0_2, .int .u64 a0_3, .int .u64 a0_4, .string a0_5] 42 (0, 0)) (by (with_reducible repeat (first | refine blk_drewN ?_ _ | refine blk_drew ?_ | refine blk_alloc ?_ _)); exact BK166.out) hb); have n1_ := Aside0.mk (blk_below (g := gb167) (o := .cells #[.int .u64 a1_0, .int .u64 a1_1, .int .u64 a1_2, .string a1_3, .string a1_4] 29 (0, 0)) (by (with_reducible repeat (first | refine blk_drewN ?_ _ | refine blk_drew ?_ | refine blk_alloc ?_ _)); exact BK167.out) hb); have n2_ := Aside0.mk (blk_below (g := gb168) (o := .cells #[.int .u64 a2_0, .int .u64 a2_1, .int .u64 a2_2, .string a2_3, .string a2_4] 29 (0, 0)) (by (with_reducible repeat (first | refine blk_drewN ?_ _ | refine blk_drew ?_ | refine blk_alloc ?_ _)); exact BK168.out) hb); have n3_ := Aside0.mk (below_step (by repeat (first | (with_reducible first | exact HB.out | apply below_alloc | apply pw_below_drewN | apply below_drew1 | refine below_set ?_ GE166.out | refine below_set ?_ GE167.out | refine below_set ?_ GE168.out) | exact HB.out)) hb); clear BK166; clear BK167; clear BK168; clear HB; have BK166 := n0_; have BK167 := n1_; have BK168 := n2_; have HB := n3_; clear n0_ n1_ n2_ n3_; (try clear hb); (try clear hb2); (try clear hk); (try clear hi)))
        go_meet
        case rel => exact ⟨_, (true), (by first | rfl | (simp; done) | (simp [*]; done)), H', ⟨by first | omega | exact Nat.le_refl _⟩, ⟨by (with_reducible repeat (first | refine blk_drewN ?_ _ | refine blk_drew ?_ | refine blk_alloc ?_ _)); exact BK166.out⟩, ⟨by (with_reducible repeat (first | refine blk_drewN ?_ _ | refine blk_drew ?_ | refine blk_alloc ?_ _)); exact BK167.out⟩, ⟨by (with_reducible repeat (first | refine blk_drewN ?_ _ | refine blk_drew ?_ | refine blk_alloc ?_ _)); exact BK168.out⟩, ⟨by repeat (first | (with_reducible first | exact HB.out | apply below_alloc | apply pw_below_drewN | apply below_drew1 | refine below_set ?_ GE166.out | refine below_set ?_ GE167.out | refine below_set ?_ GE168.out) | exact HB.out)⟩⟩
    · replace c9 := Bool.eq_false_iff.mpr c9
      subst c9
      have H1 : (laws_FnSemverTermDown.j0 k true a0_0 a0_1 a0_2 a0_3 a0_4 a0_5 a1_0 a1_1 a1_2 a1_3 a1_4 a2_0 a2_1 a2_2 a2_3 a2_4) = some r := by rw [if_neg (show ¬ (false = true) by decide)] at H; exact H
      clear H
      have H := H1
      clear H1
      have H' := Aside0.mk H
      clear H
      have hnb29 := NB166_167.out
      have hnc29 := NB167_166.out
      have hnb30 := NB166_168.out
      have hnc30 := NB168_166.out
      have hcz31_0 : w7.cell? ⟨gb166, 0, none⟩ = some (.int .i64 a0_0) := (blk_cell BK166.out 0).trans rfl
      have hcz31_1 : w7.cell? ⟨gb166, 1, none⟩ = some (.int .i64 a0_1) := (blk_cell BK166.out 1).trans rfl
      have hcz31_2 : w7.cell? ⟨gb166, 2, none⟩ = some (.int .u64 a0_2) := (blk_cell BK166.out 2).trans rfl
      have hcz31_3 : w7.cell? ⟨gb166, 3, none⟩ = some (.int .u64 a0_3) := (blk_cell BK166.out 3).trans rfl
      have hcz31_4 : w7.cell? ⟨gb166, 4, none⟩ = some (.int .u64 a0_4) := (blk_cell BK166.out 4).trans rfl
      have hcz31_5 : w7.cell? ⟨gb166, 5, none⟩ = some (.string a0_5) := (blk_cell BK166.out 5).trans rfl
      have hfz31_0 := blk_frozen BK166.out 0
      have hfz31_1 := blk_frozen BK166.out 1
      have hfz31_2 := blk_frozen BK166.out 2
      have hfz31_3 := blk_frozen BK166.out 3
      have hfz31_4 := blk_frozen BK166.out 4
      have hfz31_5 := blk_frozen BK166.out 5
      go_wp2_with (first | ((with_reducible refine gate_callee (f := 36) rfl ?_); refine goesL_ (some 8) rfl rfl Tryd.func36 (by kernel_rfl) rfl #[.agg #[.int .i64 a0_0, .int .i64 a0_1, .int .u64 a0_2, .int .u64 a0_3, .int .u64 a0_4, .string a0_5]] rfl (by (try simp only [List.map_toArray, List.map_cons, List.map_nil]); first | done | rfl | (simp only [List.length_drop, List.length_take]; rfl)) ?_; (with_reducible refine (laws_zzFits13.calls a0_0 a0_1 a0_2 a0_3 a0_4 a0_5 false _ A8.out).mono ?_); rintro e w32 ⟨rfl, hb⟩; refine ⟨_, rfl, ?_⟩; have n0_ := Aside0.mk (blk_below (g := gb166) (o := .cells #[.int .i64 a0_0, .int .i64 a0_1, .int .u64 a0_2, .int .u64 a0_3, .int .u64 a0_4, .string a0_5] 42 (0, 0)) (by (with_reducible repeat (first | refine blk_drewN ?_ _ | refine blk_drew ?_ | refine blk_alloc ?_ _)); exact BK166.out) hb); have n1_ := Aside0.mk (blk_below (g := gb167) (o := .cells #[.int .u64 a1_0, .int .u64 a1_1, .int .u64 a1_2, .string a1_3, .string a1_4] 29 (0, 0)) (by (with_reducible repeat (first | refine blk_drewN ?_ _ | refine blk_drew ?_ | refine blk_alloc ?_ _)); exact BK167.out) hb); have n2_ := Aside0.mk (blk_below (g := gb168) (o := .cells #[.int .u64 a2_0, .int .u64 a2_1, .int .u64 a2_2, .string a2_3, .string a2_4] 29 (0, 0)) (by (with_reducible repeat (first | refine blk_drewN ?_ _ | refine blk_drew ?_ | refine blk_alloc ?_ _)); exact BK168.out) hb); have n3_ := Aside0.mk (below_step (by repeat (first | (with_reducible first | exact HB.out | apply below_alloc | apply pw_below_drewN | apply below_drew1 | refine below_set ?_ GE166.out | refine below_set ?_ GE167.out | refine below_set ?_ GE168.out) | exact HB.out)) hb); clear BK166; clear BK167; clear BK168; clear HB; have BK166 := n0_; have BK167 := n1_; have BK168 := n2_; have HB := n3_; clear n0_ n1_ n2_ n3_; (try clear hb); (try clear hb2); (try clear hk); (try clear hi)))
      go_meet
      case rel => exact ⟨_, (true), (by first | rfl | (simp; done) | (simp [*]; done)), H', ⟨by first | omega | exact Nat.le_refl _⟩, ⟨by (with_reducible repeat (first | refine blk_drewN ?_ _ | refine blk_drew ?_ | refine blk_alloc ?_ _)); exact BK166.out⟩, ⟨by (with_reducible repeat (first | refine blk_drewN ?_ _ | refine blk_drew ?_ | refine blk_alloc ?_ _)); exact BK167.out⟩, ⟨by (with_reducible repeat (first | refine blk_drewN ?_ _ | refine blk_drew ?_ | refine blk_alloc ?_ _)); exact BK168.out⟩, ⟨by repeat (first | (with_reducible first | exact HB.out | apply below_alloc | apply pw_below_drewN | apply below_drew1 | refine below_set ?_ GE166.out | refine below_set ?_ GE167.out | refine below_set ?_ GE168.out) | exact HB.out)⟩⟩
  case rest =>
    clear HC4
    try clear c1
    try clear c2
    try clear p2
    try clear c3
    try clear c9
    try clear c11
    try clear c13
    try clear c14
    try clear c16
    try clear c17
    try clear c22
    try clear c23
    try clear c26
    try clear c29
    try clear c30
    try clear hcz15_0
    try clear hcz15_1
    try clear hcz15_2
    try clear hcz15_3
    try clear hcz15_4
    try clear hcz15_5
    try clear hcz18_0
    try clear hcz18_1
    try clear hcz18_2
    try clear hcz18_3
    try clear hcz18_4
    try clear hcz20_0
    try clear hcz20_1
    try clear hcz20_2
    try clear hcz20_3
    try clear hcz20_4
    try clear hcz24_0
    try clear hcz24_1
    try clear hcz24_2
    try clear hcz24_3
    try clear hcz24_4
    try clear hcz24_5
    try clear hcz27_0
    try clear hcz27_1
    try clear hcz27_2
    try clear hcz27_3
    try clear hcz27_4
    try clear hcz31_0
    try clear hcz31_1
    try clear hcz31_2
    try clear hcz31_3
    try clear hcz31_4
    try clear hcz31_5
    try clear hfz15_0
    try clear hfz15_1
    try clear hfz15_2
    try clear hfz15_3
    try clear hfz15_4
    try clear hfz15_5
    try clear hfz18_0
    try clear hfz18_1
    try clear hfz18_2
    try clear hfz18_3
    try clear hfz18_4
    try clear hfz20_0
    try clear hfz20_1
    try clear hfz20_2
    try clear hfz20_3
    try clear hfz20_4
    try clear hfz24_0
    try clear hfz24_1
    try clear hfz24_2
    try clear hfz24_3
    try clear hfz24_4
    try clear hfz24_5
    try clear hfz27_0
    try clear hfz27_1
    try clear hfz27_2
    try clear hfz27_3
    try clear hfz27_4
    try clear hfz31_0
    try clear hfz31_1
    try clear hfz31_2
    try clear hfz31_3
    try clear hfz31_4
    try clear hfz31_5
    obtain ⟨kq, x19_3, rfl, HA, HJ3, BK166, BK167, BK168, HB⟩ := hcut
    cases kq with
    | zero => exact absurd HA.out (by simp [laws_FnSemverTermDown.j0])
    | succ kj3 =>
      have H := HA.out
      clear HA
      simp only [laws_FnSemverTermDown.j0] at H
      by_cases c33 : x19_3 = true
      · subst c33
        have H1 : (some true) = some r := by rw [if_pos rfl] at H; exact H
        clear H
        have H := H1
        clear H1
        obtain rfl := Option.some.inj H
        go_wp2
        go_ret
        exact ⟨by first | rfl | (simp [errW_none, errW_some] <;> rfl) | (simp [*, errW_none, errW_some] <;> rfl), by repeat (first | (with_reducible first | exact HB.out | apply below_alloc | apply pw_below_drewN | apply below_drew1 | refine below_set ?_ GE166.out | refine below_set ?_ GE167.out | refine below_set ?_ GE168.out) | exact HB.out)⟩
      · replace c33 := Bool.eq_false_iff.mpr c33
        subst c33
        have H1 : ((spec_GoodTerm.f kj3 a0_0 a0_1 a0_2 a0_3 a0_4 a0_5).bind fun t172 => (if t172 = true then (if a0_0 = 3 then ((laws_svGood.f kj3 (([(⟨a1_0, a1_1, a1_2, a1_3, a1_4⟩ : S29), (⟨a2_0, a2_1, a2_2, a2_3, a2_4⟩ : S29)] : List (S29)))).bind fun t176 => (if t176 = true then ((spec_Compare.f kj3 a1_0 a1_1 a1_2 a1_3 a1_4 a2_0 a2_1 a2_2 a2_3 a2_4).bind fun t177 => (laws_FnSemverTermDown.j1 kj3 (decide (t177 > 0)) a0_0 a0_1 a0_2 a0_3 a0_4 a0_5 a1_0 a1_1 a1_2 a1_3 a1_4 a2_0 a2_1 a2_2 a2_3 a2_4)) else (laws_FnSemverTermDown.j1 kj3 true a0_0 a0_1 a0_2 a0_3 a0_4 a0_5 a1_0 a1_1 a1_2 a1_3 a1_4 a2_0 a2_1 a2_2 a2_3 a2_4))) else (if a0_0 = 5 then ((laws_svGood.f kj3 (([(⟨a1_0, a1_1, a1_2, a1_3, a1_4⟩ : S29), (⟨a2_0, a2_1, a2_2, a2_3, a2_4⟩ : S29)] : List (S29)))).bind fun t181 => (if t181 = true then ((spec_Compare.f kj3 a1_0 a1_1 a1_2 a1_3 a1_4 a2_0 a2_1 a2_2 a2_3 a2_4).bind fun t182 => (laws_FnSemverTermDown.j1 kj3 (decide (t182 > 0)) a0_0 a0_1 a0_2 a0_3 a0_4 a0_5 a1_0 a1_1 a1_2 a1_3 a1_4 a2_0 a2_1 a2_2 a2_3 a2_4)) else (laws_FnSemverTermDown.j1 kj3 true a0_0 a0_1 a0_2 a0_3 a0_4 a0_5 a1_0 a1_1 a1_2 a1_3 a1_4 a2_0 a2_1 a2_2 a2_3 a2_4))) else (laws_FnSemverTermDown.j1 kj3 true a0_0 a0_1 a0_2 a0_3 a0_4 a0_5 a1_0 a1_1 a1_2 a1_3 a1_4 a2_0 a2_1 a2_2 a2_3 a2_4))) else (laws_FnSemverTermDown.j1 kj3 true a0_0 a0_1 a0_2 a0_3 a0_4 a0_5 a1_0 a1_1 a1_2 a1_3 a1_4 a2_0 a2_1 a2_2 a2_3 a2_4))) = some r := by rw [if_neg (show ¬ (false = true) by decide)] at H; exact H
        clear H
        have H := H1
        clear H1
        have HC34 := Aside0.mk H
        clear H
        go_upto_region 3 with (fail)
        go_cut [45] (fun v45 wc => ∃ (kq : Nat) (x45_33 : Bool), v45 = .bool x45_33 ∧ Aside0 (laws_FnSemverTermDown.j1 kq x45_33 a0_0 a0_1 a0_2 a0_3 a0_4 a0_5 a1_0 a1_1 a1_2 a1_3 a1_4 a2_0 a2_1 a2_2 a2_3 a2_4 = some r) ∧ Aside0 (kq ≤ kj3) ∧ Aside0 (wc.heap[gb166]? = some (.cells #[.int .i64 a0_0, .int .i64 a0_1, .int .u64 a0_2, .int .u64 a0_3, .int .u64 a0_4, .string a0_5] 42 (0, 0))) ∧ Aside0 (wc.heap[gb167]? = some (.cells #[.int .u64 a1_0, .int .u64 a1_1, .int .u64 a1_2, .string a1_3, .string a1_4] 29 (0, 0))) ∧ Aside0 (wc.heap[gb168]? = some (.cells #[.int .u64 a2_0, .int .u64 a2_1, .int .u64 a2_2, .string a2_3, .string a2_4] 29 (0, 0))) ∧ Aside0 (Below w.heap.size w wc))
        case first =>
          have H := HC34.out
          clear HC34
          replace H := Option.bind_eq_some_iff.mp H
          obtain ⟨t172, A350, H⟩ := H
          replace H : (if t172 = true then (if a0_0 = 3 then ((laws_svGood.f kj3 (([(⟨a1_0, a1_1, a1_2, a1_3, a1_4⟩ : S29), (⟨a2_0, a2_1, a2_2, a2_3, a2_4⟩ : S29)] : List (S29)))).bind fun t176 => (if t176 = true then ((spec_Compare.f kj3 a1_0 a1_1 a1_2 a1_3 a1_4 a2_0 a2_1 a2_2 a2_3 a2_4).bind fun t177 => (laws_FnSemverTermDown.j1 kj3 (decide (t177 > 0)) a0_0 a0_1 a0_2 a0_3 a0_4 a0_5 a1_0 a1_1 a1_2 a1_3 a1_4 a2_0 a2_1 a2_2 a2_3 a2_4)) else (laws_FnSemverTermDown.j1 kj3 true a0_0 a0_1 a0_2 a0_3 a0_4 a0_5 a1_0 a1_1 a1_2 a1_3 a1_4 a2_0 a2_1 a2_2 a2_3 a2_4))) else (if a0_0 = 5 then ((laws_svGood.f kj3 (([(⟨a1_0, a1_1, a1_2, a1_3, a1_4⟩ : S29), (⟨a2_0, a2_1, a2_2, a2_3, a2_4⟩ : S29)] : List (S29)))).bind fun t181 => (if t181 = true then ((spec_Compare.f kj3 a1_0 a1_1 a1_2 a1_3 a1_4 a2_0 a2_1 a2_2 a2_3 a2_4).bind fun t182 => (laws_FnSemverTermDown.j1 kj3 (decide (t182 > 0)) a0_0 a0_1 a0_2 a0_3 a0_4 a0_5 a1_0 a1_1 a1_2 a1_3 a1_4 a2_0 a2_1 a2_2 a2_3 a2_4)) else (laws_FnSemverTermDown.j1 kj3 true a0_0 a0_1 a0_2 a0_3 a0_4 a0_5 a1_0 a1_1 a1_2 a1_3 a1_4 a2_0 a2_1 a2_2 a2_3 a2_4))) else (laws_FnSemverTermDown.j1 kj3 true a0_0 a0_1 a0_2 a0_3 a0_4 a0_5 a1_0 a1_1 a1_2 a1_3 a1_4 a2_0 a2_1 a2_2 a2_3 a2_4))) else (laws_FnSemverTermDown.j1 kj3 true a0_0 a0_1 a0_2 a0_3 a0_4 a0_5 a1_0 a1_1 a1_2 a1_3 a1_4 a2_0 a2_1 a2_2 a2_3 a2_4)) = some r := H
          have A35 := Aside0.mk A350
          clear A350
          by_cases c36 : t172 = true
          · subst c36
            have H1 : (if a0_0 = 3 then ((laws_svGood.f kj3 (([(⟨a1_0, a1_1, a1_2, a1_3, a1_4⟩ : S29), (⟨a2_0, a2_1, a2_2, a2_3, a2_4⟩ : S29)] : List (S29)))).bind fun t176 => (if t176 = true then ((spec_Compare.f kj3 a1_0 a1_1 a1_2 a1_3 a1_4 a2_0 a2_1 a2_2 a2_3 a2_4).bind fun t177 => (laws_FnSemverTermDown.j1 kj3 (decide (t177 > 0)) a0_0 a0_1 a0_2 a0_3 a0_4 a0_5 a1_0 a1_1 a1_2 a1_3 a1_4 a2_0 a2_1 a2_2 a2_3 a2_4)) else (laws_FnSemverTermDown.j1 kj3 true a0_0 a0_1 a0_2 a0_3 a0_4 a0_5 a1_0 a1_1 a1_2 a1_3 a1_4 a2_0 a2_1 a2_2 a2_3 a2_4))) else (if a0_0 = 5 then ((laws_svGood.f kj3 (([(⟨a1_0, a1_1, a1_2, a1_3, a1_4⟩ : S29), (⟨a2_0, a2_1, a2_2, a2_3, a2_4⟩ : S29)] : List (S29)))).bind fun t181 => (if t181 = true then ((spec_Compare.f kj3 a1_0 a1_1 a1_2 a1_3 a1_4 a2_0 a2_1 a2_2 a2_3 a2_4).bind fun t182 => (laws_FnSemverTermDown.j1 kj3 (decide (t182 > 0)) a0_0 a0_1 a0_2 a0_3 a0_4 a0_5 a1_0 a1_1 a1_2 a1_3 a1_4 a2_0 a2_1 a2_2 a2_3 a2_4)) else (laws_FnSemverTermDown.j1 kj3 true a0_0 a0_1 a0_2 a0_3 a0_4 a0_5 a1_0 a1_1 a1_2 a1_3 a1_4 a2_0 a2_1 a2_2 a2_3 a2_4))) else (laws_FnSemverTermDown.j1 kj3 true a0_0 a0_1 a0_2 a0_3 a0_4 a0_5 a1_0 a1_1 a1_2 a1_3 a1_4 a2_0 a2_1 a2_2 a2_3 a2_4))) = some r := by rw [if_pos rfl] at H; exact H
            clear H
            have H := H1
            clear H1
            by_cases c37 : a0_0 = 3
            · rw [if_pos c37] at H
              have c37b0 : (a0_0 == 3) = true := beq_iff_eq.mpr c37
              have c37b1 : (a0_0 != 3) = false := bne_eq_false_iff_eq.mpr c37
              clear c37
              (first | rw [c37b0] | (simp only [i64_w, i32_w]; rw [c37b0]) | skip)
              obtain ⟨y173, hy173⟩ : ∃ y_ : List (S29), y_ = (([(⟨a1_0, a1_1, a1_2, a1_3, a1_4⟩ : S29), (⟨a2_0, a2_1, a2_2, a2_3, a2_4⟩ : S29)] : List (S29))) := ⟨_, rfl⟩
              replace H : ((laws_svGood.f kj3 y173).bind fun t176 => (if t176 = true then ((spec_Compare.f kj3 a1_0 a1_1 a1_2 a1_3 a1_4 a2_0 a2_1 a2_2 a2_3 a2_4).bind fun t177 => (laws_FnSemverTermDown.j1 kj3 (decide (t177 > 0)) a0_0 a0_1 a0_2 a0_3 a0_4 a0_5 a1_0 a1_1 a1_2 a1_3 a1_4 a2_0 a2_1 a2_2 a2_3 a2_4)) else (laws_FnSemverTermDown.j1 kj3 true a0_0 a0_1 a0_2 a0_3 a0_4 a0_5 a1_0 a1_1 a1_2 a1_3 a1_4 a2_0 a2_1 a2_2 a2_3 a2_4))) = some r := by first | (rw [hy173]; with_reducible exact H) | (have H2_ := (Option.bind_some _ _).symm.trans H; rw [hy173]; with_reducible exact H2_) | (have H2_ := (Option.bind_some _ _).symm.trans H; with_reducible exact H2_) | with_reducible exact H | (rw [hy173]; exact H) | exact H
              have Ny173 := Aside0.mk hy173
              clear hy173
              replace H := Option.bind_eq_some_iff.mp H
              obtain ⟨t176, A380, H⟩ := H
              replace H : (if t176 = true then ((spec_Compare.f kj3 a1_0 a1_1 a1_2 a1_3 a1_4 a2_0 a2_1 a2_2 a2_3 a2_4).bind fun t177 => (laws_FnSemverTermDown.j1 kj3 (decide (t177 > 0)) a0_0 a0_1 a0_2 a0_3 a0_4 a0_5 a1_0 a1_1 a1_2 a1_3 a1_4 a2_0 a2_1 a2_2 a2_3 a2_4)) else (laws_FnSemverTermDown.j1 kj3 true a0_0 a0_1 a0_2 a0_3 a0_4 a0_5 a1_0 a1_1 a1_2 a1_3 a1_4 a2_0 a2_1 a2_2 a2_3 a2_4)) = some r := H
              have A38 := Aside0.mk A380
              clear A380
              by_cases c39 : t176 = true
              · subst c39
                have H1 : ((spec_Compare.f kj3 a1_0 a1_1 a1_2 a1_3 a1_4 a2_0 a2_1 a2_2 a2_3 a2_4).bind fun t177 => (laws_FnSemverTermDown.j1 kj3 (decide (t177 > 0)) a0_0 a0_1 a0_2 a0_3 a0_4 a0_5 a1_0 a1_1 a1_2 a1_3 a1_4 a2_0 a2_1 a2_2 a2_3 a2_4)) = some r := by rw [if_pos rfl] at H; exact H
                clear H
                have H := H1
                clear H1
                replace H := Option.bind_eq_some_iff.mp H
                obtain ⟨t177, A400, H⟩ := H
                replace H : (laws_FnSemverTermDown.j1 kj3 (decide (t177 > 0)) a0_0 a0_1 a0_2 a0_3 a0_4 a0_5 a1_0 a1_1 a1_2 a1_3 a1_4 a2_0 a2_1 a2_2 a2_3 a2_4) = some r := H
                have A40 := Aside0.mk A400
                clear A400
                have H' := Aside0.mk H
                clear H
                have hnb41 := NB166_167.out
                have hnc41 := NB167_166.out
                have hnb42 := NB166_168.out
                have hnc42 := NB168_166.out
                have hcz43_0 : wc.cell? ⟨gb166, 0, none⟩ = some (.int .i64 a0_0) := (blk_cell BK166.out 0).trans rfl
                have hcz43_1 : wc.cell? ⟨gb166, 1, none⟩ = some (.int .i64 a0_1) := (blk_cell BK166.out 1).trans rfl
                have hcz43_2 : wc.cell? ⟨gb166, 2, none⟩ = some (.int .u64 a0_2) := (blk_cell BK166.out 2).trans rfl
                have hcz43_3 : wc.cell? ⟨gb166, 3, none⟩ = some (.int .u64 a0_3) := (blk_cell BK166.out 3).trans rfl
                have hcz43_4 : wc.cell? ⟨gb166, 4, none⟩ = some (.int .u64 a0_4) := (blk_cell BK166.out 4).trans rfl
                have hcz43_5 : wc.cell? ⟨gb166, 5, none⟩ = some (.string a0_5) := (blk_cell BK166.out 5).trans rfl
                have hfz43_0 := blk_frozen BK166.out 0
                have hfz43_1 := blk_frozen BK166.out 1
                have hfz43_2 := blk_frozen BK166.out 2
                have hfz43_3 := blk_frozen BK166.out 3
                have hfz43_4 := blk_frozen BK166.out 4
                have hfz43_5 := blk_frozen BK166.out 5
                go_wp2_with (first | ((with_reducible refine gate_callee (f := 63) rfl ?_); refine goesL_ (some 21) rfl rfl Tryd.func63 (by kernel_rfl) rfl #[.agg #[.int .i64 a0_0, .int .i64 a0_1, .int .u64 a0_2, .int .u64 a0_3, .int .u64 a0_4, .string a0_5]] rfl (by (try simp only [List.map_toArray, List.map_cons, List.map_nil]); first | done | rfl | (simp only [List.length_drop, List.length_take]; rfl)) ?_; (with_reducible refine (spec_GoodTerm.calls kj3 a0_0 a0_1 a0_2 a0_3 a0_4 a0_5 true _ A35.out).mono ?_); rintro e w44 ⟨rfl, hb⟩; refine ⟨_, rfl, ?_⟩; have n0_ := Aside0.mk (blk_below (g := gb166) (o := .cells #[.int .i64 a0_0, .int .i64 a0_1, .int .u64 a0_2, .int .u64 a0_3, .int .u64 a0_4, .string a0_5] 42 (0, 0)) (by (with_reducible repeat (first | refine blk_drewN ?_ _ | refine blk_drew ?_ | refine blk_alloc ?_ _)); exact BK166.out) hb); have n1_ := Aside0.mk (blk_below (g := gb167) (o := .cells #[.int .u64 a1_0, .int .u64 a1_1, .int .u64 a1_2, .string a1_3, .string a1_4] 29 (0, 0)) (by (with_reducible repeat (first | refine blk_drewN ?_ _ | refine blk_drew ?_ | refine blk_alloc ?_ _)); exact BK167.out) hb); have n2_ := Aside0.mk (blk_below (g := gb168) (o := .cells #[.int .u64 a2_0, .int .u64 a2_1, .int .u64 a2_2, .string a2_3, .string a2_4] 29 (0, 0)) (by (with_reducible repeat (first | refine blk_drewN ?_ _ | refine blk_drew ?_ | refine blk_alloc ?_ _)); exact BK168.out) hb); have n3_ := Aside0.mk (below_step (by repeat (first | (with_reducible first | exact HB.out | apply below_alloc | apply pw_below_drewN | apply below_drew1 | refine below_set ?_ GE166.out | refine below_set ?_ GE167.out | refine below_set ?_ GE168.out) | exact HB.out)) hb); clear BK166; clear BK167; clear BK168; clear HB; have BK166 := n0_; have BK167 := n1_; have BK168 := n2_; have HB := n3_; clear n0_ n1_ n2_ n3_; (try clear hb); (try clear hb2); (try clear hk); (try clear hi); have hcz45_0 : w44.cell? ⟨gb166, 0, none⟩ = some (.int .i64 a0_0) := (blk_cell BK166.out 0).trans rfl; have hcz45_1 : w44.cell? ⟨gb166, 1, none⟩ = some (.int .i64 a0_1) := (blk_cell BK166.out 1).trans rfl; have hcz45_2 : w44.cell? ⟨gb166, 2, none⟩ = some (.int .u64 a0_2) := (blk_cell BK166.out 2).trans rfl; have hcz45_3 : w44.cell? ⟨gb166, 3, none⟩ = some (.int .u64 a0_3) := (blk_cell BK166.out 3).trans rfl; have hcz45_4 : w44.cell? ⟨gb166, 4, none⟩ = some (.int .u64 a0_4) := (blk_cell BK166.out 4).trans rfl; have hcz45_5 : w44.cell? ⟨gb166, 5, none⟩ = some (.string a0_5) := (blk_cell BK166.out 5).trans rfl; have hfz45_0 := blk_frozen BK166.out 0; have hfz45_1 := blk_frozen BK166.out 1; have hfz45_2 := blk_frozen BK166.out 2; have hfz45_3 := blk_frozen BK166.out 3; have hfz45_4 := blk_frozen BK166.out 4; have hfz45_5 := blk_frozen BK166.out 5; have hnb46 := NB167_168.out; have hnc46 := NB168_167.out; have hcz47_0 : w44.cell? ⟨gb167, 0, none⟩ = some (.int .u64 a1_0) := (blk_cell BK167.out 0).trans rfl; have hcz47_1 : w44.cell? ⟨gb167, 1, none⟩ = some (.int .u64 a1_1) := (blk_cell BK167.out 1).trans rfl; have hcz47_2 : w44.cell? ⟨gb167, 2, none⟩ = some (.int .u64 a1_2) := (blk_cell BK167.out 2).trans rfl; have hcz47_3 : w44.cell? ⟨gb167, 3, none⟩ = some (.string a1_3) := (blk_cell BK167.out 3).trans rfl; have hcz47_4 : w44.cell? ⟨gb167, 4, none⟩ = some (.string a1_4) := (blk_cell BK167.out 4).trans rfl; have hfz47_0 := blk_frozen BK167.out 0; have hfz47_1 := blk_frozen BK167.out 1; have hfz47_2 := blk_frozen BK167.out 2; have hfz47_3 := blk_frozen BK167.out 3; have hfz47_4 := blk_frozen BK167.out 4; have hcz48_0 : w44.cell? ⟨gb168, 0, none⟩ = some (.int .u64 a2_0) := (blk_cell BK168.out 0).trans rfl; have hcz48_1 : w44.cell? ⟨gb168, 1, none⟩ = some (.int .u64 a2_1) := (blk_cell BK168.out 1).trans rfl; have hcz48_2 : w44.cell? ⟨gb168, 2, none⟩ = some (.int .u64 a2_2) := (blk_cell BK168.out 2).trans rfl; have hcz48_3 : w44.cell? ⟨gb168, 3, none⟩ = some (.string a2_3) := (blk_cell BK168.out 3).trans rfl; have hcz48_4 : w44.cell? ⟨gb168, 4, none⟩ = some (.string a2_4) := (blk_cell BK168.out 4).trans rfl; have hfz48_0 := blk_frozen BK168.out 0; have hfz48_1 := blk_frozen BK168.out 1; have hfz48_2 := blk_frozen BK168.out 2; have hfz48_3 := blk_frozen BK168.out 3; have hfz48_4 := blk_frozen BK168.out 4) | ((with_reducible refine gate_dst (N := 36) rfl ?_); (try (refine gate_guard (by rfl) ?_; dsimp only)); refine Kd.R_lit k29 _ 29 ?hg (N := 36) ?hd (xs := ([(⟨a1_0, a1_1, a1_2, a1_3, a1_4⟩ : S29), (⟨a2_0, a2_1, a2_2, a2_3, a2_4⟩ : S29)] : List (S29))) (inner := [.int .u64 a1_0, .int .u64 a1_1, .int .u64 a1_2, .string a1_3, .string a1_4, .int .u64 a2_0, .int .u64 a2_1, .int .u64 a2_2, .string a2_3, .string a2_4]) (ok := fun _ => True) (okp := fun _ => True) ?hr ?hp (fun _ hk => hk) trivial (Below.refl _ _) (Nat.le_refl _) (by simp) ?_; (case hd => rfl); (case hg => rfl); (case hr => first | (go_simp; done) | (go_simp; rfl)); (case hp => exact (Reps.c5 (show Kd.M k29 _ _ _ (⟨a1_0, a1_1, a1_2, a1_3, a1_4⟩ : S29) [.int .u64 a1_0, .int .u64 a1_1, .int .u64 a1_2, .string a1_3, .string a1_4] from (k29_mkM _ _ _ (⟨a1_0, a1_1, a1_2, a1_3, a1_4⟩ : S29) )) (Reps.c5 (show Kd.M k29 _ _ _ (⟨a2_0, a2_1, a2_2, a2_3, a2_4⟩ : S29) [.int .u64 a2_0, .int .u64 a2_1, .int .u64 a2_2, .string a2_3, .string a2_4] from (k29_mkM _ _ _ (⟨a2_0, a2_1, a2_2, a2_3, a2_4⟩ : S29) )) (Reps.none _ _)))); intro v174 w49 ho50 hb hg_ hnew_; clear hg_ hnew_; (first | rw [← Ny173.out] at ho50 | (simp only [Int.reduceToNat] at ho50; rw [← Ny173.out] at ho50)); have n0_ := Aside0.mk (Kd.R_lower (Kd.R_newB (Kd.R_newB ho50 (g := gb167) (o := .cells #[.int .u64 a1_0, .int .u64 a1_1, .int .u64 a1_2, .string a1_3, .string a1_4] 29 (0, 0)) (by (with_reducible repeat (first | refine blk_drewN ?_ _ | refine blk_drew ?_ | refine blk_alloc ?_ _)); exact BK167.out)) (g := gb168) (o := .cells #[.int .u64 a2_0, .int .u64 a2_1, .int .u64 a2_2, .string a2_3, .string a2_4] 29 (0, 0)) (by (with_reducible repeat (first | refine blk_drewN ?_ _ | refine blk_drew ?_ | refine blk_alloc ?_ _)); exact BK168.out)) (below_size (by repeat (first | (with_reducible first | exact HB.out | apply below_alloc | apply pw_below_drewN | apply below_drew1 | refine below_set ?_ GE166.out | refine below_set ?_ GE167.out | refine below_set ?_ GE168.out) | exact HB.out)))); have n1_ := Aside0.mk (blk_below (g := gb166) (o := .cells #[.int .i64 a0_0, .int .i64 a0_1, .int .u64 a0_2, .int .u64 a0_3, .int .u64 a0_4, .string a0_5] 42 (0, 0)) (by (with_reducible repeat (first | refine blk_drewN ?_ _ | refine blk_drew ?_ | refine blk_alloc ?_ _)); exact BK166.out) hb); have n2_ := Aside0.mk (blk_below (g := gb167) (o := .cells #[.int .u64 a1_0, .int .u64 a1_1, .int .u64 a1_2, .string a1_3, .string a1_4] 29 (0, 0)) (by (with_reducible repeat (first | refine blk_drewN ?_ _ | refine blk_drew ?_ | refine blk_alloc ?_ _)); exact BK167.out) hb); have n3_ := Aside0.mk (blk_below (g := gb168) (o := .cells #[.int .u64 a2_0, .int .u64 a2_1, .int .u64 a2_2, .string a2_3, .string a2_4] 29 (0, 0)) (by (with_reducible repeat (first | refine blk_drewN ?_ _ | refine blk_drew ?_ | refine blk_alloc ?_ _)); exact BK168.out) hb); have n4_ := Aside0.mk (below_step (by repeat (first | (with_reducible first | exact HB.out | apply below_alloc | apply pw_below_drewN | apply below_drew1 | refine below_set ?_ GE166.out | refine below_set ?_ GE167.out | refine below_set ?_ GE168.out) | exact HB.out)) hb); clear BK166; clear BK167; clear BK168; clear HB; have HO175 := n0_; have BK166 := n1_; have BK167 := n2_; have BK168 := n3_; have HB := n4_; clear n0_ n1_ n2_ n3_ n4_; clear hb ho50; obtain ⟨Ao51, co51, eo51⟩ := Kd.R_slice HO175.out; subst eo51) | (go_at_call 26; (with_reducible refine (laws_svGood.calls kj3 _ _ y173 true _ ?side1 ?side2 A38.out).mono ?_); (case side1 => repeat (first | exact (Kd.R_reads' HO175.out).2.2 | (with_reducible refine Kd.C_alloc ?_ _) | (with_reducible refine Kd.C_drewN ?_ _) | (with_reducible refine Kd.C_drew ?_))); (case side2 => exact (Kd.R_reads' HO175.out).2.1); rintro e w52 ⟨rfl, hb⟩; have n0_ := Aside0.mk (Kd.R_below (by (with_reducible repeat (first | apply Kd.R_alloc | apply Kd.R_drewN | apply Kd.R_drew)); exact HO175.out) hb); have n1_ := Aside0.mk (blk_below (g := gb166) (o := .cells #[.int .i64 a0_0, .int .i64 a0_1, .int .u64 a0_2, .int .u64 a0_3, .int .u64 a0_4, .string a0_5] 42 (0, 0)) (by (with_reducible repeat (first | refine blk_drewN ?_ _ | refine blk_drew ?_ | refine blk_alloc ?_ _)); exact BK166.out) hb); have n2_ := Aside0.mk (blk_below (g := gb167) (o := .cells #[.int .u64 a1_0, .int .u64 a1_1, .int .u64 a1_2, .string a1_3, .string a1_4] 29 (0, 0)) (by (with_reducible repeat (first | refine blk_drewN ?_ _ | refine blk_drew ?_ | refine blk_alloc ?_ _)); exact BK167.out) hb); have n3_ := Aside0.mk (blk_below (g := gb168) (o := .cells #[.int .u64 a2_0, .int .u64 a2_1, .int .u64 a2_2, .string a2_3, .string a2_4] 29 (0, 0)) (by (with_reducible repeat (first | refine blk_drewN ?_ _ | refine blk_drew ?_ | refine blk_alloc ?_ _)); exact BK168.out) hb); have n4_ := Aside0.mk (below_step (by repeat (first | (with_reducible first | exact HB.out | apply below_alloc | apply pw_below_drewN | apply below_drew1 | refine below_set ?_ GE166.out | refine below_set ?_ GE167.out | refine below_set ?_ GE168.out) | exact HB.out)) hb); clear HO175; clear BK166; clear BK167; clear BK168; clear HB; have HO175 := n0_; have BK166 := n1_; have BK167 := n2_; have BK168 := n3_; have HB := n4_; clear n0_ n1_ n2_ n3_ n4_; (try clear hb); (try clear hb2); (try clear hk); (try clear hi); have hcz53_0 : w52.cell? ⟨gb167, 0, none⟩ = some (.int .u64 a1_0) := (blk_cell BK167.out 0).trans rfl; have hcz53_1 : w52.cell? ⟨gb167, 1, none⟩ = some (.int .u64 a1_1) := (blk_cell BK167.out 1).trans rfl; have hcz53_2 : w52.cell? ⟨gb167, 2, none⟩ = some (.int .u64 a1_2) := (blk_cell BK167.out 2).trans rfl; have hcz53_3 : w52.cell? ⟨gb167, 3, none⟩ = some (.string a1_3) := (blk_cell BK167.out 3).trans rfl; have hcz53_4 : w52.cell? ⟨gb167, 4, none⟩ = some (.string a1_4) := (blk_cell BK167.out 4).trans rfl; have hfz53_0 := blk_frozen BK167.out 0; have hfz53_1 := blk_frozen BK167.out 1; have hfz53_2 := blk_frozen BK167.out 2; have hfz53_3 := blk_frozen BK167.out 3; have hfz53_4 := blk_frozen BK167.out 4; have hcz54_0 : w52.cell? ⟨gb168, 0, none⟩ = some (.int .u64 a2_0) := (blk_cell BK168.out 0).trans rfl; have hcz54_1 : w52.cell? ⟨gb168, 1, none⟩ = some (.int .u64 a2_1) := (blk_cell BK168.out 1).trans rfl; have hcz54_2 : w52.cell? ⟨gb168, 2, none⟩ = some (.int .u64 a2_2) := (blk_cell BK168.out 2).trans rfl; have hcz54_3 : w52.cell? ⟨gb168, 3, none⟩ = some (.string a2_3) := (blk_cell BK168.out 3).trans rfl; have hcz54_4 : w52.cell? ⟨gb168, 4, none⟩ = some (.string a2_4) := (blk_cell BK168.out 4).trans rfl; have hfz54_0 := blk_frozen BK168.out 0; have hfz54_1 := blk_frozen BK168.out 1; have hfz54_2 := blk_frozen BK168.out 2; have hfz54_3 := blk_frozen BK168.out 3; have hfz54_4 := blk_frozen BK168.out 4) | (go_at_call 64; (with_reducible refine (spec_Compare.calls kj3 a1_0 a1_1 a1_2 a1_3 a1_4 a2_0 a2_1 a2_2 a2_3 a2_4 t177 _ A40.out).mono ?_); rintro e w55 ⟨rfl, hb⟩; have n0_ := Aside0.mk (Kd.R_below (by (with_reducible repeat (first | apply Kd.R_alloc | apply Kd.R_drewN | apply Kd.R_drew)); exact HO175.out) hb); have n1_ := Aside0.mk (blk_below (g := gb166) (o := .cells #[.int .i64 a0_0, .int .i64 a0_1, .int .u64 a0_2, .int .u64 a0_3, .int .u64 a0_4, .string a0_5] 42 (0, 0)) (by (with_reducible repeat (first | refine blk_drewN ?_ _ | refine blk_drew ?_ | refine blk_alloc ?_ _)); exact BK166.out) hb); have n2_ := Aside0.mk (blk_below (g := gb167) (o := .cells #[.int .u64 a1_0, .int .u64 a1_1, .int .u64 a1_2, .string a1_3, .string a1_4] 29 (0, 0)) (by (with_reducible repeat (first | refine blk_drewN ?_ _ | refine blk_drew ?_ | refine blk_alloc ?_ _)); exact BK167.out) hb); have n3_ := Aside0.mk (blk_below (g := gb168) (o := .cells #[.int .u64 a2_0, .int .u64 a2_1, .int .u64 a2_2, .string a2_3, .string a2_4] 29 (0, 0)) (by (with_reducible repeat (first | refine blk_drewN ?_ _ | refine blk_drew ?_ | refine blk_alloc ?_ _)); exact BK168.out) hb); have n4_ := Aside0.mk (below_step (by repeat (first | (with_reducible first | exact HB.out | apply below_alloc | apply pw_below_drewN | apply below_drew1 | refine below_set ?_ GE166.out | refine below_set ?_ GE167.out | refine below_set ?_ GE168.out) | exact HB.out)) hb); clear HO175; clear BK166; clear BK167; clear BK168; clear HB; have HO175 := n0_; have BK166 := n1_; have BK167 := n2_; have BK168 := n3_; have HB := n4_; clear n0_ n1_ n2_ n3_ n4_; (try clear hb); (try clear hb2); (try clear hk); (try clear hi)))
                go_meet
                case rel => exact ⟨_, (decide (t177 > 0)), (by first | rfl | (simp; done) | (simp [*]; done)), H', ⟨by have := HJ3.out; first | omega | exact Nat.le_refl _⟩, ⟨by (with_reducible repeat (first | refine blk_drewN ?_ _ | refine blk_drew ?_ | refine blk_alloc ?_ _)); exact BK166.out⟩, ⟨by (with_reducible repeat (first | refine blk_drewN ?_ _ | refine blk_drew ?_ | refine blk_alloc ?_ _)); exact BK167.out⟩, ⟨by (with_reducible repeat (first | refine blk_drewN ?_ _ | refine blk_drew ?_ | refine blk_alloc ?_ _)); exact BK168.out⟩, ⟨by repeat (first | (with_reducible first | exact HB.out | apply below_alloc | apply pw_below_drewN | apply below_drew1 | refine below_set ?_ GE166.out | refine below_set ?_ GE167.out | refine below_set ?_ GE168.out) | exact HB.out)⟩⟩
              · replace c39 := Bool.eq_false_iff.mpr c39
                subst c39
                have H1 : (laws_FnSemverTermDown.j1 kj3 true a0_0 a0_1 a0_2 a0_3 a0_4 a0_5 a1_0 a1_1 a1_2 a1_3 a1_4 a2_0 a2_1 a2_2 a2_3 a2_4) = some r := by rw [if_neg (show ¬ (false = true) by decide)] at H; exact H
                clear H
                have H := H1
                clear H1
                have H' := Aside0.mk H
                clear H
                have hnb56 := NB166_167.out
                have hnc56 := NB167_166.out
                have hnb57 := NB166_168.out
                have hnc57 := NB168_166.out
                have hcz58_0 : wc.cell? ⟨gb166, 0, none⟩ = some (.int .i64 a0_0) := (blk_cell BK166.out 0).trans rfl
                have hcz58_1 : wc.cell? ⟨gb166, 1, none⟩ = some (.int .i64 a0_1) := (blk_cell BK166.out 1).trans rfl
                have hcz58_2 : wc.cell? ⟨gb166, 2, none⟩ = some (.int .u64 a0_2) := (blk_cell BK166.out 2).trans rfl
                have hcz58_3 : wc.cell? ⟨gb166, 3, none⟩ = some (.int .u64 a0_3) := (blk_cell BK166.out 3).trans rfl
                have hcz58_4 : wc.cell? ⟨gb166, 4, none⟩ = some (.int .u64 a0_4) := (blk_cell BK166.out 4).trans rfl
                have hcz58_5 : wc.cell? ⟨gb166, 5, none⟩ = some (.string a0_5) := (blk_cell BK166.out 5).trans rfl
                have hfz58_0 := blk_frozen BK166.out 0
                have hfz58_1 := blk_frozen BK166.out 1
                have hfz58_2 := blk_frozen BK166.out 2
                have hfz58_3 := blk_frozen BK166.out 3
                have hfz58_4 := blk_frozen BK166.out 4
                have hfz58_5 := blk_frozen BK166.out 5
                go_wp2_with (first | ((with_reducible refine gate_callee (f := 63) rfl ?_); refine goesL_ (some 21) rfl rfl Tryd.func63 (by kernel_rfl) rfl #[.agg #[.int .i64 a0_0, .int .i64 a0_1, .int .u64 a0_2, .int .u64 a0_3, .int .u64 a0_4, .string a0_5]] rfl (by (try simp only [List.map_toArray, List.map_cons, List.map_nil]); first | done | rfl | (simp only [List.length_drop, List.length_take]; rfl)) ?_; (with_reducible refine (spec_GoodTerm.calls kj3 a0_0 a0_1 a0_2 a0_3 a0_4 a0_5 true _ A35.out).mono ?_); rintro e w59 ⟨rfl, hb⟩; refine ⟨_, rfl, ?_⟩; have n0_ := Aside0.mk (blk_below (g := gb166) (o := .cells #[.int .i64 a0_0, .int .i64 a0_1, .int .u64 a0_2, .int .u64 a0_3, .int .u64 a0_4, .string a0_5] 42 (0, 0)) (by (with_reducible repeat (first | refine blk_drewN ?_ _ | refine blk_drew ?_ | refine blk_alloc ?_ _)); exact BK166.out) hb); have n1_ := Aside0.mk (blk_below (g := gb167) (o := .cells #[.int .u64 a1_0, .int .u64 a1_1, .int .u64 a1_2, .string a1_3, .string a1_4] 29 (0, 0)) (by (with_reducible repeat (first | refine blk_drewN ?_ _ | refine blk_drew ?_ | refine blk_alloc ?_ _)); exact BK167.out) hb); have n2_ := Aside0.mk (blk_below (g := gb168) (o := .cells #[.int .u64 a2_0, .int .u64 a2_1, .int .u64 a2_2, .string a2_3, .string a2_4] 29 (0, 0)) (by (with_reducible repeat (first | refine blk_drewN ?_ _ | refine blk_drew ?_ | refine blk_alloc ?_ _)); exact BK168.out) hb); have n3_ := Aside0.mk (below_step (by repeat (first | (with_reducible first | exact HB.out | apply below_alloc | apply pw_below_drewN | apply below_drew1 | refine below_set ?_ GE166.out | refine below_set ?_ GE167.out | refine below_set ?_ GE168.out) | exact HB.out)) hb); clear BK166; clear BK167; clear BK168; clear HB; have BK166 := n0_; have BK167 := n1_; have BK168 := n2_; have HB := n3_; clear n0_ n1_ n2_ n3_; (try clear hb); (try clear hb2); (try clear hk); (try clear hi); have hcz60_0 : w59.cell? ⟨gb166, 0, none⟩ = some (.int .i64 a0_0) := (blk_cell BK166.out 0).trans rfl; have hcz60_1 : w59.cell? ⟨gb166, 1, none⟩ = some (.int .i64 a0_1) := (blk_cell BK166.out 1).trans rfl; have hcz60_2 : w59.cell? ⟨gb166, 2, none⟩ = some (.int .u64 a0_2) := (blk_cell BK166.out 2).trans rfl; have hcz60_3 : w59.cell? ⟨gb166, 3, none⟩ = some (.int .u64 a0_3) := (blk_cell BK166.out 3).trans rfl; have hcz60_4 : w59.cell? ⟨gb166, 4, none⟩ = some (.int .u64 a0_4) := (blk_cell BK166.out 4).trans rfl; have hcz60_5 : w59.cell? ⟨gb166, 5, none⟩ = some (.string a0_5) := (blk_cell BK166.out 5).trans rfl; have hfz60_0 := blk_frozen BK166.out 0; have hfz60_1 := blk_frozen BK166.out 1; have hfz60_2 := blk_frozen BK166.out 2; have hfz60_3 := blk_frozen BK166.out 3; have hfz60_4 := blk_frozen BK166.out 4; have hfz60_5 := blk_frozen BK166.out 5; have hnb61 := NB167_168.out; have hnc61 := NB168_167.out; have hcz62_0 : w59.cell? ⟨gb167, 0, none⟩ = some (.int .u64 a1_0) := (blk_cell BK167.out 0).trans rfl; have hcz62_1 : w59.cell? ⟨gb167, 1, none⟩ = some (.int .u64 a1_1) := (blk_cell BK167.out 1).trans rfl; have hcz62_2 : w59.cell? ⟨gb167, 2, none⟩ = some (.int .u64 a1_2) := (blk_cell BK167.out 2).trans rfl; have hcz62_3 : w59.cell? ⟨gb167, 3, none⟩ = some (.string a1_3) := (blk_cell BK167.out 3).trans rfl; have hcz62_4 : w59.cell? ⟨gb167, 4, none⟩ = some (.string a1_4) := (blk_cell BK167.out 4).trans rfl; have hfz62_0 := blk_frozen BK167.out 0; have hfz62_1 := blk_frozen BK167.out 1; have hfz62_2 := blk_frozen BK167.out 2; have hfz62_3 := blk_frozen BK167.out 3; have hfz62_4 := blk_frozen BK167.out 4; have hcz63_0 : w59.cell? ⟨gb168, 0, none⟩ = some (.int .u64 a2_0) := (blk_cell BK168.out 0).trans rfl; have hcz63_1 : w59.cell? ⟨gb168, 1, none⟩ = some (.int .u64 a2_1) := (blk_cell BK168.out 1).trans rfl; have hcz63_2 : w59.cell? ⟨gb168, 2, none⟩ = some (.int .u64 a2_2) := (blk_cell BK168.out 2).trans rfl; have hcz63_3 : w59.cell? ⟨gb168, 3, none⟩ = some (.string a2_3) := (blk_cell BK168.out 3).trans rfl; have hcz63_4 : w59.cell? ⟨gb168, 4, none⟩ = some (.string a2_4) := (blk_cell BK168.out 4).trans rfl; have hfz63_0 := blk_frozen BK168.out 0; have hfz63_1 := blk_frozen BK168.out 1; have hfz63_2 := blk_frozen BK168.out 2; have hfz63_3 := blk_frozen BK168.out 3; have hfz63_4 := blk_frozen BK168.out 4) | ((with_reducible refine gate_dst (N := 36) rfl ?_); (try (refine gate_guard (by rfl) ?_; dsimp only)); refine Kd.R_lit k29 _ 29 ?hg (N := 36) ?hd (xs := ([(⟨a1_0, a1_1, a1_2, a1_3, a1_4⟩ : S29), (⟨a2_0, a2_1, a2_2, a2_3, a2_4⟩ : S29)] : List (S29))) (inner := [.int .u64 a1_0, .int .u64 a1_1, .int .u64 a1_2, .string a1_3, .string a1_4, .int .u64 a2_0, .int .u64 a2_1, .int .u64 a2_2, .string a2_3, .string a2_4]) (ok := fun _ => True) (okp := fun _ => True) ?hr ?hp (fun _ hk => hk) trivial (Below.refl _ _) (Nat.le_refl _) (by simp) ?_; (case hd => rfl); (case hg => rfl); (case hr => first | (go_simp; done) | (go_simp; rfl)); (case hp => exact (Reps.c5 (show Kd.M k29 _ _ _ (⟨a1_0, a1_1, a1_2, a1_3, a1_4⟩ : S29) [.int .u64 a1_0, .int .u64 a1_1, .int .u64 a1_2, .string a1_3, .string a1_4] from (k29_mkM _ _ _ (⟨a1_0, a1_1, a1_2, a1_3, a1_4⟩ : S29) )) (Reps.c5 (show Kd.M k29 _ _ _ (⟨a2_0, a2_1, a2_2, a2_3, a2_4⟩ : S29) [.int .u64 a2_0, .int .u64 a2_1, .int .u64 a2_2, .string a2_3, .string a2_4] from (k29_mkM _ _ _ (⟨a2_0, a2_1, a2_2, a2_3, a2_4⟩ : S29) )) (Reps.none _ _)))); intro v174 w64 ho65 hb hg_ hnew_; clear hg_ hnew_; (first | rw [← Ny173.out] at ho65 | (simp only [Int.reduceToNat] at ho65; rw [← Ny173.out] at ho65)); have n0_ := Aside0.mk (Kd.R_lower (Kd.R_newB (Kd.R_newB ho65 (g := gb167) (o := .cells #[.int .u64 a1_0, .int .u64 a1_1, .int .u64 a1_2, .string a1_3, .string a1_4] 29 (0, 0)) (by (with_reducible repeat (first | refine blk_drewN ?_ _ | refine blk_drew ?_ | refine blk_alloc ?_ _)); exact BK167.out)) (g := gb168) (o := .cells #[.int .u64 a2_0, .int .u64 a2_1, .int .u64 a2_2, .string a2_3, .string a2_4] 29 (0, 0)) (by (with_reducible repeat (first | refine blk_drewN ?_ _ | refine blk_drew ?_ | refine blk_alloc ?_ _)); exact BK168.out)) (below_size (by repeat (first | (with_reducible first | exact HB.out | apply below_alloc | apply pw_below_drewN | apply below_drew1 | refine below_set ?_ GE166.out | refine below_set ?_ GE167.out | refine below_set ?_ GE168.out) | exact HB.out)))); have n1_ := Aside0.mk (blk_below (g := gb166) (o := .cells #[.int .i64 a0_0, .int .i64 a0_1, .int .u64 a0_2, .int .u64 a0_3, .int .u64 a0_4, .string a0_5] 42 (0, 0)) (by (with_reducible repeat (first | refine blk_drewN ?_ _ | refine blk_drew ?_ | refine blk_alloc ?_ _)); exact BK166.out) hb); have n2_ := Aside0.mk (blk_below (g := gb167) (o := .cells #[.int .u64 a1_0, .int .u64 a1_1, .int .u64 a1_2, .string a1_3, .string a1_4] 29 (0, 0)) (by (with_reducible repeat (first | refine blk_drewN ?_ _ | refine blk_drew ?_ | refine blk_alloc ?_ _)); exact BK167.out) hb); have n3_ := Aside0.mk (blk_below (g := gb168) (o := .cells #[.int .u64 a2_0, .int .u64 a2_1, .int .u64 a2_2, .string a2_3, .string a2_4] 29 (0, 0)) (by (with_reducible repeat (first | refine blk_drewN ?_ _ | refine blk_drew ?_ | refine blk_alloc ?_ _)); exact BK168.out) hb); have n4_ := Aside0.mk (below_step (by repeat (first | (with_reducible first | exact HB.out | apply below_alloc | apply pw_below_drewN | apply below_drew1 | refine below_set ?_ GE166.out | refine below_set ?_ GE167.out | refine below_set ?_ GE168.out) | exact HB.out)) hb); clear BK166; clear BK167; clear BK168; clear HB; have HO175 := n0_; have BK166 := n1_; have BK167 := n2_; have BK168 := n3_; have HB := n4_; clear n0_ n1_ n2_ n3_ n4_; clear hb ho65; obtain ⟨Ao66, co66, eo66⟩ := Kd.R_slice HO175.out; subst eo66) | (go_at_call 26; (with_reducible refine (laws_svGood.calls kj3 _ _ y173 false _ ?side1 ?side2 A38.out).mono ?_); (case side1 => repeat (first | exact (Kd.R_reads' HO175.out).2.2 | (with_reducible refine Kd.C_alloc ?_ _) | (with_reducible refine Kd.C_drewN ?_ _) | (with_reducible refine Kd.C_drew ?_))); (case side2 => exact (Kd.R_reads' HO175.out).2.1); rintro e w67 ⟨rfl, hb⟩; have n0_ := Aside0.mk (Kd.R_below (by (with_reducible repeat (first | apply Kd.R_alloc | apply Kd.R_drewN | apply Kd.R_drew)); exact HO175.out) hb); have n1_ := Aside0.mk (blk_below (g := gb166) (o := .cells #[.int .i64 a0_0, .int .i64 a0_1, .int .u64 a0_2, .int .u64 a0_3, .int .u64 a0_4, .string a0_5] 42 (0, 0)) (by (with_reducible repeat (first | refine blk_drewN ?_ _ | refine blk_drew ?_ | refine blk_alloc ?_ _)); exact BK166.out) hb); have n2_ := Aside0.mk (blk_below (g := gb167) (o := .cells #[.int .u64 a1_0, .int .u64 a1_1, .int .u64 a1_2, .string a1_3, .string a1_4] 29 (0, 0)) (by (with_reducible repeat (first | refine blk_drewN ?_ _ | refine blk_drew ?_ | refine blk_alloc ?_ _)); exact BK167.out) hb); have n3_ := Aside0.mk (blk_below (g := gb168) (o := .cells #[.int .u64 a2_0, .int .u64 a2_1, .int .u64 a2_2, .string a2_3, .string a2_4] 29 (0, 0)) (by (with_reducible repeat (first | refine blk_drewN ?_ _ | refine blk_drew ?_ | refine blk_alloc ?_ _)); exact BK168.out) hb); have n4_ := Aside0.mk (below_step (by repeat (first | (with_reducible first | exact HB.out | apply below_alloc | apply pw_below_drewN | apply below_drew1 | refine below_set ?_ GE166.out | refine below_set ?_ GE167.out | refine below_set ?_ GE168.out) | exact HB.out)) hb); clear HO175; clear BK166; clear BK167; clear BK168; clear HB; have HO175 := n0_; have BK166 := n1_; have BK167 := n2_; have BK168 := n3_; have HB := n4_; clear n0_ n1_ n2_ n3_ n4_; (try clear hb); (try clear hb2); (try clear hk); (try clear hi)))
                go_meet
                case rel => exact ⟨_, (true), (by first | rfl | (simp; done) | (simp [*]; done)), H', ⟨by have := HJ3.out; first | omega | exact Nat.le_refl _⟩, ⟨by (with_reducible repeat (first | refine blk_drewN ?_ _ | refine blk_drew ?_ | refine blk_alloc ?_ _)); exact BK166.out⟩, ⟨by (with_reducible repeat (first | refine blk_drewN ?_ _ | refine blk_drew ?_ | refine blk_alloc ?_ _)); exact BK167.out⟩, ⟨by (with_reducible repeat (first | refine blk_drewN ?_ _ | refine blk_drew ?_ | refine blk_alloc ?_ _)); exact BK168.out⟩, ⟨by repeat (first | (with_reducible first | exact HB.out | apply below_alloc | apply pw_below_drewN | apply below_drew1 | refine below_set ?_ GE166.out | refine below_set ?_ GE167.out | refine below_set ?_ GE168.out) | exact HB.out)⟩⟩
            · rw [if_neg c37] at H
              have c37b0 : (a0_0 == 3) = false := beq_eq_false_iff_ne.mpr c37
              have c37b1 : (a0_0 != 3) = true := bne_iff_ne.mpr c37
              (first | rw [c37b0] | (simp only [i64_w, i32_w]; rw [c37b0]) | skip)
              by_cases c68 : a0_0 = 5
              · rw [if_pos c68] at H
                have c68b0 : (a0_0 == 5) = true := beq_iff_eq.mpr c68
                have c68b1 : (a0_0 != 5) = false := bne_eq_false_iff_eq.mpr c68
                clear c68
                obtain ⟨y178, hy178⟩ : ∃ y_ : List (S29), y_ = (([(⟨a1_0, a1_1, a1_2, a1_3, a1_4⟩ : S29), (⟨a2_0, a2_1, a2_2, a2_3, a2_4⟩ : S29)] : List (S29))) := ⟨_, rfl⟩
                replace H : ((laws_svGood.f kj3 y178).bind fun t181 => (if t181 = true then ((spec_Compare.f kj3 a1_0 a1_1 a1_2 a1_3 a1_4 a2_0 a2_1 a2_2 a2_3 a2_4).bind fun t182 => (laws_FnSemverTermDown.j1 kj3 (decide (t182 > 0)) a0_0 a0_1 a0_2 a0_3 a0_4 a0_5 a1_0 a1_1 a1_2 a1_3 a1_4 a2_0 a2_1 a2_2 a2_3 a2_4)) else (laws_FnSemverTermDown.j1 kj3 true a0_0 a0_1 a0_2 a0_3 a0_4 a0_5 a1_0 a1_1 a1_2 a1_3 a1_4 a2_0 a2_1 a2_2 a2_3 a2_4))) = some r := by first | (rw [hy178]; with_reducible exact H) | (have H2_ := (Option.bind_some _ _).symm.trans H; rw [hy178]; with_reducible exact H2_) | (have H2_ := (Option.bind_some _ _).symm.trans H; with_reducible exact H2_) | with_reducible exact H | (rw [hy178]; exact H) | exact H
                have Ny178 := Aside0.mk hy178
                clear hy178
                replace H := Option.bind_eq_some_iff.mp H
                obtain ⟨t181, A690, H⟩ := H
                replace H : (if t181 = true then ((spec_Compare.f kj3 a1_0 a1_1 a1_2 a1_3 a1_4 a2_0 a2_1 a2_2 a2_3 a2_4).bind fun t182 => (laws_FnSemverTermDown.j1 kj3 (decide (t182 > 0)) a0_0 a0_1 a0_2 a0_3 a0_4 a0_5 a1_0 a1_1 a1_2 a1_3 a1_4 a2_0 a2_1 a2_2 a2_3 a2_4)) else (laws_FnSemverTermDown.j1 kj3 true a0_0 a0_1 a0_2 a0_3 a0_4 a0_5 a1_0 a1_1 a1_2 a1_3 a1_4 a2_0 a2_1 a2_2 a2_3 a2_4)) = some r := H
                have A69 := Aside0.mk A690
                clear A690
                by_cases c70 : t181 = true
                · subst c70
                  have H1 : ((spec_Compare.f kj3 a1_0 a1_1 a1_2 a1_3 a1_4 a2_0 a2_1 a2_2 a2_3 a2_4).bind fun t182 => (laws_FnSemverTermDown.j1 kj3 (decide (t182 > 0)) a0_0 a0_1 a0_2 a0_3 a0_4 a0_5 a1_0 a1_1 a1_2 a1_3 a1_4 a2_0 a2_1 a2_2 a2_3 a2_4)) = some r := by rw [if_pos rfl] at H; exact H
                  clear H
                  have H := H1
                  clear H1
                  replace H := Option.bind_eq_some_iff.mp H
                  obtain ⟨t182, A710, H⟩ := H
                  replace H : (laws_FnSemverTermDown.j1 kj3 (decide (t182 > 0)) a0_0 a0_1 a0_2 a0_3 a0_4 a0_5 a1_0 a1_1 a1_2 a1_3 a1_4 a2_0 a2_1 a2_2 a2_3 a2_4) = some r := H
                  have A71 := Aside0.mk A710
                  clear A710
                  have H' := Aside0.mk H
                  clear H
                  have hnb72 := NB166_167.out
                  have hnc72 := NB167_166.out
                  have hnb73 := NB166_168.out
                  have hnc73 := NB168_166.out
                  have hcz74_0 : wc.cell? ⟨gb166, 0, none⟩ = some (.int .i64 a0_0) := (blk_cell BK166.out 0).trans rfl
                  have hcz74_1 : wc.cell? ⟨gb166, 1, none⟩ = some (.int .i64 a0_1) := (blk_cell BK166.out 1).trans rfl
                  have hcz74_2 : wc.cell? ⟨gb166, 2, none⟩ = some (.int .u64 a0_2) := (blk_cell BK166.out 2).trans rfl
                  have hcz74_3 : wc.cell? ⟨gb166, 3, none⟩ = some (.int .u64 a0_3) := (blk_cell BK166.out 3).trans rfl
                  have hcz74_4 : wc.cell? ⟨gb166, 4, none⟩ = some (.int .u64 a0_4) := (blk_cell BK166.out 4).trans rfl
                  have hcz74_5 : wc.cell? ⟨gb166, 5, none⟩ = some (.string a0_5) := (blk_cell BK166.out 5).trans rfl
                  have hfz74_0 := blk_frozen BK166.out 0
                  have hfz74_1 := blk_frozen BK166.out 1
                  have hfz74_2 := blk_frozen BK166.out 2
                  have hfz74_3 := blk_frozen BK166.out 3
                  have hfz74_4 := blk_frozen BK166.out 4
                  have hfz74_5 := blk_frozen BK166.out 5
                  go_wp2_with (first | ((with_reducible refine gate_callee (f := 63) rfl ?_); refine goesL_ (some 21) rfl rfl Tryd.func63 (by kernel_rfl) rfl #[.agg #[.int .i64 a0_0, .int .i64 a0_1, .int .u64 a0_2, .int .u64 a0_3, .int .u64 a0_4, .string a0_5]] rfl (by (try simp only [List.map_toArray, List.map_cons, List.map_nil]); first | done | rfl | (simp only [List.length_drop, List.length_take]; rfl)) ?_; (with_reducible refine (spec_GoodTerm.calls kj3 a0_0 a0_1 a0_2 a0_3 a0_4 a0_5 true _ A35.out).mono ?_); rintro e w75 ⟨rfl, hb⟩; refine ⟨_, rfl, ?_⟩; have n0_ := Aside0.mk (blk_below (g := gb166) (o := .cells #[.int .i64 a0_0, .int .i64 a0_1, .int .u64 a0_2, .int .u64 a0_3, .int .u64 a0_4, .string a0_5] 42 (0, 0)) (by (with_reducible repeat (first | refine blk_drewN ?_ _ | refine blk_drew ?_ | refine blk_alloc ?_ _)); exact BK166.out) hb); have n1_ := Aside0.mk (blk_below (g := gb167) (o := .cells #[.int .u64 a1_0, .int .u64 a1_1, .int .u64 a1_2, .string a1_3, .string a1_4] 29 (0, 0)) (by (with_reducible repeat (first | refine blk_drewN ?_ _ | refine blk_drew ?_ | refine blk_alloc ?_ _)); exact BK167.out) hb); have n2_ := Aside0.mk (blk_below (g := gb168) (o := .cells #[.int .u64 a2_0, .int .u64 a2_1, .int .u64 a2_2, .string a2_3, .string a2_4] 29 (0, 0)) (by (with_reducible repeat (first | refine blk_drewN ?_ _ | refine blk_drew ?_ | refine blk_alloc ?_ _)); exact BK168.out) hb); have n3_ := Aside0.mk (below_step (by repeat (first | (with_reducible first | exact HB.out | apply below_alloc | apply pw_below_drewN | apply below_drew1 | refine below_set ?_ GE166.out | refine below_set ?_ GE167.out | refine below_set ?_ GE168.out) | exact HB.out)) hb); clear BK166; clear BK167; clear BK168; clear HB; have BK166 := n0_; have BK167 := n1_; have BK168 := n2_; have HB := n3_; clear n0_ n1_ n2_ n3_; (try clear hb); (try clear hb2); (try clear hk); (try clear hi); have hcz76_0 : w75.cell? ⟨gb166, 0, none⟩ = some (.int .i64 a0_0) := (blk_cell BK166.out 0).trans rfl; have hcz76_1 : w75.cell? ⟨gb166, 1, none⟩ = some (.int .i64 a0_1) := (blk_cell BK166.out 1).trans rfl; have hcz76_2 : w75.cell? ⟨gb166, 2, none⟩ = some (.int .u64 a0_2) := (blk_cell BK166.out 2).trans rfl; have hcz76_3 : w75.cell? ⟨gb166, 3, none⟩ = some (.int .u64 a0_3) := (blk_cell BK166.out 3).trans rfl; have hcz76_4 : w75.cell? ⟨gb166, 4, none⟩ = some (.int .u64 a0_4) := (blk_cell BK166.out 4).trans rfl; have hcz76_5 : w75.cell? ⟨gb166, 5, none⟩ = some (.string a0_5) := (blk_cell BK166.out 5).trans rfl; have hfz76_0 := blk_frozen BK166.out 0; have hfz76_1 := blk_frozen BK166.out 1; have hfz76_2 := blk_frozen BK166.out 2; have hfz76_3 := blk_frozen BK166.out 3; have hfz76_4 := blk_frozen BK166.out 4; have hfz76_5 := blk_frozen BK166.out 5; have hnb77 := NB167_168.out; have hnc77 := NB168_167.out; have hcz78_0 : w75.cell? ⟨gb167, 0, none⟩ = some (.int .u64 a1_0) := (blk_cell BK167.out 0).trans rfl; have hcz78_1 : w75.cell? ⟨gb167, 1, none⟩ = some (.int .u64 a1_1) := (blk_cell BK167.out 1).trans rfl; have hcz78_2 : w75.cell? ⟨gb167, 2, none⟩ = some (.int .u64 a1_2) := (blk_cell BK167.out 2).trans rfl; have hcz78_3 : w75.cell? ⟨gb167, 3, none⟩ = some (.string a1_3) := (blk_cell BK167.out 3).trans rfl; have hcz78_4 : w75.cell? ⟨gb167, 4, none⟩ = some (.string a1_4) := (blk_cell BK167.out 4).trans rfl; have hfz78_0 := blk_frozen BK167.out 0; have hfz78_1 := blk_frozen BK167.out 1; have hfz78_2 := blk_frozen BK167.out 2; have hfz78_3 := blk_frozen BK167.out 3; have hfz78_4 := blk_frozen BK167.out 4; have hcz79_0 : w75.cell? ⟨gb168, 0, none⟩ = some (.int .u64 a2_0) := (blk_cell BK168.out 0).trans rfl; have hcz79_1 : w75.cell? ⟨gb168, 1, none⟩ = some (.int .u64 a2_1) := (blk_cell BK168.out 1).trans rfl; have hcz79_2 : w75.cell? ⟨gb168, 2, none⟩ = some (.int .u64 a2_2) := (blk_cell BK168.out 2).trans rfl; have hcz79_3 : w75.cell? ⟨gb168, 3, none⟩ = some (.string a2_3) := (blk_cell BK168.out 3).trans rfl; have hcz79_4 : w75.cell? ⟨gb168, 4, none⟩ = some (.string a2_4) := (blk_cell BK168.out 4).trans rfl; have hfz79_0 := blk_frozen BK168.out 0; have hfz79_1 := blk_frozen BK168.out 1; have hfz79_2 := blk_frozen BK168.out 2; have hfz79_3 := blk_frozen BK168.out 3; have hfz79_4 := blk_frozen BK168.out 4) | ((with_reducible refine gate_dst (N := 36) rfl ?_); (try (refine gate_guard (by rfl) ?_; dsimp only)); refine Kd.R_lit k29 _ 29 ?hg (N := 36) ?hd (xs := ([(⟨a1_0, a1_1, a1_2, a1_3, a1_4⟩ : S29), (⟨a2_0, a2_1, a2_2, a2_3, a2_4⟩ : S29)] : List (S29))) (inner := [.int .u64 a1_0, .int .u64 a1_1, .int .u64 a1_2, .string a1_3, .string a1_4, .int .u64 a2_0, .int .u64 a2_1, .int .u64 a2_2, .string a2_3, .string a2_4]) (ok := fun _ => True) (okp := fun _ => True) ?hr ?hp (fun _ hk => hk) trivial (Below.refl _ _) (Nat.le_refl _) (by simp) ?_; (case hd => rfl); (case hg => rfl); (case hr => first | (go_simp; done) | (go_simp; rfl)); (case hp => exact (Reps.c5 (show Kd.M k29 _ _ _ (⟨a1_0, a1_1, a1_2, a1_3, a1_4⟩ : S29) [.int .u64 a1_0, .int .u64 a1_1, .int .u64 a1_2, .string a1_3, .string a1_4] from (k29_mkM _ _ _ (⟨a1_0, a1_1, a1_2, a1_3, a1_4⟩ : S29) )) (Reps.c5 (show Kd.M k29 _ _ _ (⟨a2_0, a2_1, a2_2, a2_3, a2_4⟩ : S29) [.int .u64 a2_0, .int .u64 a2_1, .int .u64 a2_2, .string a2_3, .string a2_4] from (k29_mkM _ _ _ (⟨a2_0, a2_1, a2_2, a2_3, a2_4⟩ : S29) )) (Reps.none _ _)))); intro v179 w80 ho81 hb hg_ hnew_; clear hg_ hnew_; (first | rw [← Ny178.out] at ho81 | (simp only [Int.reduceToNat] at ho81; rw [← Ny178.out] at ho81)); have n0_ := Aside0.mk (Kd.R_lower (Kd.R_newB (Kd.R_newB ho81 (g := gb167) (o := .cells #[.int .u64 a1_0, .int .u64 a1_1, .int .u64 a1_2, .string a1_3, .string a1_4] 29 (0, 0)) (by (with_reducible repeat (first | refine blk_drewN ?_ _ | refine blk_drew ?_ | refine blk_alloc ?_ _)); exact BK167.out)) (g := gb168) (o := .cells #[.int .u64 a2_0, .int .u64 a2_1, .int .u64 a2_2, .string a2_3, .string a2_4] 29 (0, 0)) (by (with_reducible repeat (first | refine blk_drewN ?_ _ | refine blk_drew ?_ | refine blk_alloc ?_ _)); exact BK168.out)) (below_size (by repeat (first | (with_reducible first | exact HB.out | apply below_alloc | apply pw_below_drewN | apply below_drew1 | refine below_set ?_ GE166.out | refine below_set ?_ GE167.out | refine below_set ?_ GE168.out) | exact HB.out)))); have n1_ := Aside0.mk (blk_below (g := gb166) (o := .cells #[.int .i64 a0_0, .int .i64 a0_1, .int .u64 a0_2, .int .u64 a0_3, .int .u64 a0_4, .string a0_5] 42 (0, 0)) (by (with_reducible repeat (first | refine blk_drewN ?_ _ | refine blk_drew ?_ | refine blk_alloc ?_ _)); exact BK166.out) hb); have n2_ := Aside0.mk (blk_below (g := gb167) (o := .cells #[.int .u64 a1_0, .int .u64 a1_1, .int .u64 a1_2, .string a1_3, .string a1_4] 29 (0, 0)) (by (with_reducible repeat (first | refine blk_drewN ?_ _ | refine blk_drew ?_ | refine blk_alloc ?_ _)); exact BK167.out) hb); have n3_ := Aside0.mk (blk_below (g := gb168) (o := .cells #[.int .u64 a2_0, .int .u64 a2_1, .int .u64 a2_2, .string a2_3, .string a2_4] 29 (0, 0)) (by (with_reducible repeat (first | refine blk_drewN ?_ _ | refine blk_drew ?_ | refine blk_alloc ?_ _)); exact BK168.out) hb); have n4_ := Aside0.mk (below_step (by repeat (first | (with_reducible first | exact HB.out | apply below_alloc | apply pw_below_drewN | apply below_drew1 | refine below_set ?_ GE166.out | refine below_set ?_ GE167.out | refine below_set ?_ GE168.out) | exact HB.out)) hb); clear BK166; clear BK167; clear BK168; clear HB; have HO180 := n0_; have BK166 := n1_; have BK167 := n2_; have BK168 := n3_; have HB := n4_; clear n0_ n1_ n2_ n3_ n4_; clear hb ho81; obtain ⟨Ao82, co82, eo82⟩ := Kd.R_slice HO180.out; subst eo82) | (go_at_call 26; (with_reducible refine (laws_svGood.calls kj3 _ _ y178 true _ ?side1 ?side2 A69.out).mono ?_); (case side1 => repeat (first | exact (Kd.R_reads' HO180.out).2.2 | (with_reducible refine Kd.C_alloc ?_ _) | (with_reducible refine Kd.C_drewN ?_ _) | (with_reducible refine Kd.C_drew ?_))); (case side2 => exact (Kd.R_reads' HO180.out).2.1); rintro e w83 ⟨rfl, hb⟩; have n0_ := Aside0.mk (Kd.R_below (by (with_reducible repeat (first | apply Kd.R_alloc | apply Kd.R_drewN | apply Kd.R_drew)); exact HO180.out) hb); have n1_ := Aside0.mk (blk_below (g := gb166) (o := .cells #[.int .i64 a0_0, .int .i64 a0_1, .int .u64 a0_2, .int .u64 a0_3, .int .u64 a0_4, .string a0_5] 42 (0, 0)) (by (with_reducible repeat (first | refine blk_drewN ?_ _ | refine blk_drew ?_ | refine blk_alloc ?_ _)); exact BK166.out) hb); have n2_ := Aside0.mk (blk_below (g := gb167) (o := .cells #[.int .u64 a1_0, .int .u64 a1_1, .int .u64 a1_2, .string a1_3, .string a1_4] 29 (0, 0)) (by (with_reducible repeat (first | refine blk_drewN ?_ _ | refine blk_drew ?_ | refine blk_alloc ?_ _)); exact BK167.out) hb); have n3_ := Aside0.mk (blk_below (g := gb168) (o := .cells #[.int .u64 a2_0, .int .u64 a2_1, .int .u64 a2_2, .string a2_3, .string a2_4] 29 (0, 0)) (by (with_reducible repeat (first | refine blk_drewN ?_ _ | refine blk_drew ?_ | refine blk_alloc ?_ _)); exact BK168.out) hb); have n4_ := Aside0.mk (below_step (by repeat (first | (with_reducible first | exact HB.out | apply below_alloc | apply pw_below_drewN | apply below_drew1 | refine below_set ?_ GE166.out | refine below_set ?_ GE167.out | refine below_set ?_ GE168.out) | exact HB.out)) hb); clear HO180; clear BK166; clear BK167; clear BK168; clear HB; have HO180 := n0_; have BK166 := n1_; have BK167 := n2_; have BK168 := n3_; have HB := n4_; clear n0_ n1_ n2_ n3_ n4_; (try clear hb); (try clear hb2); (try clear hk); (try clear hi); have hcz84_0 : w83.cell? ⟨gb167, 0, none⟩ = some (.int .u64 a1_0) := (blk_cell BK167.out 0).trans rfl; have hcz84_1 : w83.cell? ⟨gb167, 1, none⟩ = some (.int .u64 a1_1) := (blk_cell BK167.out 1).trans rfl; have hcz84_2 : w83.cell? ⟨gb167, 2, none⟩ = some (.int .u64 a1_2) := (blk_cell BK167.out 2).trans rfl; have hcz84_3 : w83.cell? ⟨gb167, 3, none⟩ = some (.string a1_3) := (blk_cell BK167.out 3).trans rfl; have hcz84_4 : w83.cell? ⟨gb167, 4, none⟩ = some (.string a1_4) := (blk_cell BK167.out 4).trans rfl; have hfz84_0 := blk_frozen BK167.out 0; have hfz84_1 := blk_frozen BK167.out 1; have hfz84_2 := blk_frozen BK167.out 2; have hfz84_3 := blk_frozen BK167.out 3; have hfz84_4 := blk_frozen BK167.out 4; have hcz85_0 : w83.cell? ⟨gb168, 0, none⟩ = some (.int .u64 a2_0) := (blk_cell BK168.out 0).trans rfl; have hcz85_1 : w83.cell? ⟨gb168, 1, none⟩ = some (.int .u64 a2_1) := (blk_cell BK168.out 1).trans rfl; have hcz85_2 : w83.cell? ⟨gb168, 2, none⟩ = some (.int .u64 a2_2) := (blk_cell BK168.out 2).trans rfl; have hcz85_3 : w83.cell? ⟨gb168, 3, none⟩ = some (.string a2_3) := (blk_cell BK168.out 3).trans rfl; have hcz85_4 : w83.cell? ⟨gb168, 4, none⟩ = some (.string a2_4) := (blk_cell BK168.out 4).trans rfl; have hfz85_0 := blk_frozen BK168.out 0; have hfz85_1 := blk_frozen BK168.out 1; have hfz85_2 := blk_frozen BK168.out 2; have hfz85_3 := blk_frozen BK168.out 3; have hfz85_4 := blk_frozen BK168.out 4) | (go_at_call 64; (with_reducible refine (spec_Compare.calls kj3 a1_0 a1_1 a1_2 a1_3 a1_4 a2_0 a2_1 a2_2 a2_3 a2_4 t182 _ A71.out).mono ?_); rintro e w86 ⟨rfl, hb⟩; have n0_ := Aside0.mk (Kd.R_below (by (with_reducible repeat (first | apply Kd.R_alloc | apply Kd.R_drewN | apply Kd.R_drew)); exact HO180.out) hb); have n1_ := Aside0.mk (blk_below (g := gb166) (o := .cells #[.int .i64 a0_0, .int .i64 a0_1, .int .u64 a0_2, .int .u64 a0_3, .int .u64 a0_4, .string a0_5] 42 (0, 0)) (by (with_reducible repeat (first | refine blk_drewN ?_ _ | refine blk_drew ?_ | refine blk_alloc ?_ _)); exact BK166.out) hb); have n2_ := Aside0.mk (blk_below (g := gb167) (o := .cells #[.int .u64 a1_0, .int .u64 a1_1, .int .u64 a1_2, .string a1_3, .string a1_4] 29 (0, 0)) (by (with_reducible repeat (first | refine blk_drewN ?_ _ | refine blk_drew ?_ | refine blk_alloc ?_ _)); exact BK167.out) hb); have n3_ := Aside0.mk (blk_below (g := gb168) (o := .cells #[.int .u64 a2_0, .int .u64 a2_1, .int .u64 a2_2, .string a2_3, .string a2_4] 29 (0, 0)) (by (with_reducible repeat (first | refine blk_drewN ?_ _ | refine blk_drew ?_ | refine blk_alloc ?_ _)); exact BK168.out) hb); have n4_ := Aside0.mk (below_step (by repeat (first | (with_reducible first | exact HB.out | apply below_alloc | apply pw_below_drewN | apply below_drew1 | refine below_set ?_ GE166.out | refine below_set ?_ GE167.out | refine below_set ?_ GE168.out) | exact HB.out)) hb); clear HO180; clear BK166; clear BK167; clear BK168; clear HB; have HO180 := n0_; have BK166 := n1_; have BK167 := n2_; have BK168 := n3_; have HB := n4_; clear n0_ n1_ n2_ n3_ n4_; (try clear hb); (try clear hb2); (try clear hk); (try clear hi)))
                  go_meet
                  case rel => exact ⟨_, (decide (t182 > 0)), (by first | rfl | (simp; done) | (simp [*]; done)), H', ⟨by have := HJ3.out; first | omega | exact Nat.le_refl _⟩, ⟨by (with_reducible repeat (first | refine blk_drewN ?_ _ | refine blk_drew ?_ | refine blk_alloc ?_ _)); exact BK166.out⟩, ⟨by (with_reducible repeat (first | refine blk_drewN ?_ _ | refine blk_drew ?_ | refine blk_alloc ?_ _)); exact BK167.out⟩, ⟨by (with_reducible repeat (first | refine blk_drewN ?_ _ | refine blk_drew ?_ | refine blk_alloc ?_ _)); exact BK168.out⟩, ⟨by repeat (first | (with_reducible first | exact HB.out | apply below_alloc | apply pw_below_drewN | apply below_drew1 | refine below_set ?_ GE166.out | refine below_set ?_ GE167.out | refine below_set ?_ GE168.out) | exact HB.out)⟩⟩
                · replace c70 := Bool.eq_false_iff.mpr c70
                  subst c70
                  have H1 : (laws_FnSemverTermDown.j1 kj3 true a0_0 a0_1 a0_2 a0_3 a0_4 a0_5 a1_0 a1_1 a1_2 a1_3 a1_4 a2_0 a2_1 a2_2 a2_3 a2_4) = some r := by rw [if_neg (show ¬ (false = true) by decide)] at H; exact H
                  clear H
                  have H := H1
                  clear H1
                  have H' := Aside0.mk H
                  clear H
                  have hnb87 := NB166_167.out
                  have hnc87 := NB167_166.out
                  have hnb88 := NB166_168.out
                  have hnc88 := NB168_166.out
                  have hcz89_0 : wc.cell? ⟨gb166, 0, none⟩ = some (.int .i64 a0_0) := (blk_cell BK166.out 0).trans rfl
                  have hcz89_1 : wc.cell? ⟨gb166, 1, none⟩ = some (.int .i64 a0_1) := (blk_cell BK166.out 1).trans rfl
                  have hcz89_2 : wc.cell? ⟨gb166, 2, none⟩ = some (.int .u64 a0_2) := (blk_cell BK166.out 2).trans rfl
                  have hcz89_3 : wc.cell? ⟨gb166, 3, none⟩ = some (.int .u64 a0_3) := (blk_cell BK166.out 3).trans rfl
                  have hcz89_4 : wc.cell? ⟨gb166, 4, none⟩ = some (.int .u64 a0_4) := (blk_cell BK166.out 4).trans rfl
                  have hcz89_5 : wc.cell? ⟨gb166, 5, none⟩ = some (.string a0_5) := (blk_cell BK166.out 5).trans rfl
                  have hfz89_0 := blk_frozen BK166.out 0
                  have hfz89_1 := blk_frozen BK166.out 1
                  have hfz89_2 := blk_frozen BK166.out 2
                  have hfz89_3 := blk_frozen BK166.out 3
                  have hfz89_4 := blk_frozen BK166.out 4
                  have hfz89_5 := blk_frozen BK166.out 5
                  go_wp2_with (first | ((with_reducible refine gate_callee (f := 63) rfl ?_); refine goesL_ (some 21) rfl rfl Tryd.func63 (by kernel_rfl) rfl #[.agg #[.int .i64 a0_0, .int .i64 a0_1, .int .u64 a0_2, .int .u64 a0_3, .int .u64 a0_4, .string a0_5]] rfl (by (try simp only [List.map_toArray, List.map_cons, List.map_nil]); first | done | rfl | (simp only [List.length_drop, List.length_take]; rfl)) ?_; (with_reducible refine (spec_GoodTerm.calls kj3 a0_0 a0_1 a0_2 a0_3 a0_4 a0_5 true _ A35.out).mono ?_); rintro e w90 ⟨rfl, hb⟩; refine ⟨_, rfl, ?_⟩; have n0_ := Aside0.mk (blk_below (g := gb166) (o := .cells #[.int .i64 a0_0, .int .i64 a0_1, .int .u64 a0_2, .int .u64 a0_3, .int .u64 a0_4, .string a0_5] 42 (0, 0)) (by (with_reducible repeat (first | refine blk_drewN ?_ _ | refine blk_drew ?_ | refine blk_alloc ?_ _)); exact BK166.out) hb); have n1_ := Aside0.mk (blk_below (g := gb167) (o := .cells #[.int .u64 a1_0, .int .u64 a1_1, .int .u64 a1_2, .string a1_3, .string a1_4] 29 (0, 0)) (by (with_reducible repeat (first | refine blk_drewN ?_ _ | refine blk_drew ?_ | refine blk_alloc ?_ _)); exact BK167.out) hb); have n2_ := Aside0.mk (blk_below (g := gb168) (o := .cells #[.int .u64 a2_0, .int .u64 a2_1, .int .u64 a2_2, .string a2_3, .string a2_4] 29 (0, 0)) (by (with_reducible repeat (first | refine blk_drewN ?_ _ | refine blk_drew ?_ | refine blk_alloc ?_ _)); exact BK168.out) hb); have n3_ := Aside0.mk (below_step (by repeat (first | (with_reducible first | exact HB.out | apply below_alloc | apply pw_below_drewN | apply below_drew1 | refine below_set ?_ GE166.out | refine below_set ?_ GE167.out | refine below_set ?_ GE168.out) | exact HB.out)) hb); clear BK166; clear BK167; clear BK168; clear HB; have BK166 := n0_; have BK167 := n1_; have BK168 := n2_; have HB := n3_; clear n0_ n1_ n2_ n3_; (try clear hb); (try clear hb2); (try clear hk); (try clear hi); have hcz91_0 : w90.cell? ⟨gb166, 0, none⟩ = some (.int .i64 a0_0) := (blk_cell BK166.out 0).trans rfl; have hcz91_1 : w90.cell? ⟨gb166, 1, none⟩ = some (.int .i64 a0_1) := (blk_cell BK166.out 1).trans rfl; have hcz91_2 : w90.cell? ⟨gb166, 2, none⟩ = some (.int .u64 a0_2) := (blk_cell BK166.out 2).trans rfl; have hcz91_3 : w90.cell? ⟨gb166, 3, none⟩ = some (.int .u64 a0_3) := (blk_cell BK166.out 3).trans rfl; have hcz91_4 : w90.cell? ⟨gb166, 4, none⟩ = some (.int .u64 a0_4) := (blk_cell BK166.out 4).trans rfl; have hcz91_5 : w90.cell? ⟨gb166, 5, none⟩ = some (.string a0_5) := (blk_cell BK166.out 5).trans rfl; have hfz91_0 := blk_frozen BK166.out 0; have hfz91_1 := blk_frozen BK166.out 1; have hfz91_2 := blk_frozen BK166.out 2; have hfz91_3 := blk_frozen BK166.out 3; have hfz91_4 := blk_frozen BK166.out 4; have hfz91_5 := blk_frozen BK166.out 5; have hnb92 := NB167_168.out; have hnc92 := NB168_167.out; have hcz93_0 : w90.cell? ⟨gb167, 0, none⟩ = some (.int .u64 a1_0) := (blk_cell BK167.out 0).trans rfl; have hcz93_1 : w90.cell? ⟨gb167, 1, none⟩ = some (.int .u64 a1_1) := (blk_cell BK167.out 1).trans rfl; have hcz93_2 : w90.cell? ⟨gb167, 2, none⟩ = some (.int .u64 a1_2) := (blk_cell BK167.out 2).trans rfl; have hcz93_3 : w90.cell? ⟨gb167, 3, none⟩ = some (.string a1_3) := (blk_cell BK167.out 3).trans rfl; have hcz93_4 : w90.cell? ⟨gb167, 4, none⟩ = some (.string a1_4) := (blk_cell BK167.out 4).trans rfl; have hfz93_0 := blk_frozen BK167.out 0; have hfz93_1 := blk_frozen BK167.out 1; have hfz93_2 := blk_frozen BK167.out 2; have hfz93_3 := blk_frozen BK167.out 3; have hfz93_4 := blk_frozen BK167.out 4; have hcz94_0 : w90.cell? ⟨gb168, 0, none⟩ = some (.int .u64 a2_0) := (blk_cell BK168.out 0).trans rfl; have hcz94_1 : w90.cell? ⟨gb168, 1, none⟩ = some (.int .u64 a2_1) := (blk_cell BK168.out 1).trans rfl; have hcz94_2 : w90.cell? ⟨gb168, 2, none⟩ = some (.int .u64 a2_2) := (blk_cell BK168.out 2).trans rfl; have hcz94_3 : w90.cell? ⟨gb168, 3, none⟩ = some (.string a2_3) := (blk_cell BK168.out 3).trans rfl; have hcz94_4 : w90.cell? ⟨gb168, 4, none⟩ = some (.string a2_4) := (blk_cell BK168.out 4).trans rfl; have hfz94_0 := blk_frozen BK168.out 0; have hfz94_1 := blk_frozen BK168.out 1; have hfz94_2 := blk_frozen BK168.out 2; have hfz94_3 := blk_frozen BK168.out 3; have hfz94_4 := blk_frozen BK168.out 4) | ((with_reducible refine gate_dst (N := 36) rfl ?_); (try (refine gate_guard (by rfl) ?_; dsimp only)); refine Kd.R_lit k29 _ 29 ?hg (N := 36) ?hd (xs := ([(⟨a1_0, a1_1, a1_2, a1_3, a1_4⟩ : S29), (⟨a2_0, a2_1, a2_2, a2_3, a2_4⟩ : S29)] : List (S29))) (inner := [.int .u64 a1_0, .int .u64 a1_1, .int .u64 a1_2, .string a1_3, .string a1_4, .int .u64 a2_0, .int .u64 a2_1, .int .u64 a2_2, .string a2_3, .string a2_4]) (ok := fun _ => True) (okp := fun _ => True) ?hr ?hp (fun _ hk => hk) trivial (Below.refl _ _) (Nat.le_refl _) (by simp) ?_; (case hd => rfl); (case hg => rfl); (case hr => first | (go_simp; done) | (go_simp; rfl)); (case hp => exact (Reps.c5 (show Kd.M k29 _ _ _ (⟨a1_0, a1_1, a1_2, a1_3, a1_4⟩ : S29) [.int .u64 a1_0, .int .u64 a1_1, .int .u64 a1_2, .string a1_3, .string a1_4] from (k29_mkM _ _ _ (⟨a1_0, a1_1, a1_2, a1_3, a1_4⟩ : S29) )) (Reps.c5 (show Kd.M k29 _ _ _ (⟨a2_0, a2_1, a2_2, a2_3, a2_4⟩ : S29) [.int .u64 a2_0, .int .u64 a2_1, .int .u64 a2_2, .string a2_3, .string a2_4] from (k29_mkM _ _ _ (⟨a2_0, a2_1, a2_2, a2_3, a2_4⟩ : S29) )) (Reps.none _ _)))); intro v179 w95 ho96 hb hg_ hnew_; clear hg_ hnew_; (first | rw [← Ny178.out] at ho96 | (simp only [Int.reduceToNat] at ho96; rw [← Ny178.out] at ho96)); have n0_ := Aside0.mk (Kd.R_lower (Kd.R_newB (Kd.R_newB ho96 (g := gb167) (o := .cells #[.int .u64 a1_0, .int .u64 a1_1, .int .u64 a1_2, .string a1_3, .string a1_4] 29 (0, 0)) (by (with_reducible repeat (first | refine blk_drewN ?_ _ | refine blk_drew ?_ | refine blk_alloc ?_ _)); exact BK167.out)) (g := gb168) (o := .cells #[.int .u64 a2_0, .int .u64 a2_1, .int .u64 a2_2, .string a2_3, .string a2_4] 29 (0, 0)) (by (with_reducible repeat (first | refine blk_drewN ?_ _ | refine blk_drew ?_ | refine blk_alloc ?_ _)); exact BK168.out)) (below_size (by repeat (first | (with_reducible first | exact HB.out | apply below_alloc | apply pw_below_drewN | apply below_drew1 | refine below_set ?_ GE166.out | refine below_set ?_ GE167.out | refine below_set ?_ GE168.out) | exact HB.out)))); have n1_ := Aside0.mk (blk_below (g := gb166) (o := .cells #[.int .i64 a0_0, .int .i64 a0_1, .int .u64 a0_2, .int .u64 a0_3, .int .u64 a0_4, .string a0_5] 42 (0, 0)) (by (with_reducible repeat (first | refine blk_drewN ?_ _ | refine blk_drew ?_ | refine blk_alloc ?_ _)); exact BK166.out) hb); have n2_ := Aside0.mk (blk_below (g := gb167) (o := .cells #[.int .u64 a1_0, .int .u64 a1_1, .int .u64 a1_2, .string a1_3, .string a1_4] 29 (0, 0)) (by (with_reducible repeat (first | refine blk_drewN ?_ _ | refine blk_drew ?_ | refine blk_alloc ?_ _)); exact BK167.out) hb); have n3_ := Aside0.mk (blk_below (g := gb168) (o := .cells #[.int .u64 a2_0, .int .u64 a2_1, .int .u64 a2_2, .string a2_3, .string a2_4] 29 (0, 0)) (by (with_reducible repeat (first | refine blk_drewN ?_ _ | refine blk_drew ?_ | refine blk_alloc ?_ _)); exact BK168.out) hb); have n4_ := Aside0.mk (below_step (by repeat (first | (with_reducible first | exact HB.out | apply below_alloc | apply pw_below_drewN | apply below_drew1 | refine below_set ?_ GE166.out | refine below_set ?_ GE167.out | refine below_set ?_ GE168.out) | exact HB.out)) hb); clear BK166; clear BK167; clear BK168; clear HB; have HO180 := n0_; have BK166 := n1_; have BK167 := n2_; have BK168 := n3_; have HB := n4_; clear n0_ n1_ n2_ n3_ n4_; clear hb ho96; obtain ⟨Ao97, co97, eo97⟩ := Kd.R_slice HO180.out; subst eo97) | (go_at_call 26; (with_reducible refine (laws_svGood.calls kj3 _ _ y178 false _ ?side1 ?side2 A69.out).mono ?_); (case side1 => repeat (first | exact (Kd.R_reads' HO180.out).2.2 | (with_reducible refine Kd.C_alloc ?_ _) | (with_reducible refine Kd.C_drewN ?_ _) | (with_reducible refine Kd.C_drew ?_))); (case side2 => exact (Kd.R_reads' HO180.out).2.1); rintro e w98 ⟨rfl, hb⟩; have n0_ := Aside0.mk (Kd.R_below (by (with_reducible repeat (first | apply Kd.R_alloc | apply Kd.R_drewN | apply Kd.R_drew)); exact HO180.out) hb); have n1_ := Aside0.mk (blk_below (g := gb166) (o := .cells #[.int .i64 a0_0, .int .i64 a0_1, .int .u64 a0_2, .int .u64 a0_3, .int .u64 a0_4, .string a0_5] 42 (0, 0)) (by (with_reducible repeat (first | refine blk_drewN ?_ _ | refine blk_drew ?_ | refine blk_alloc ?_ _)); exact BK166.out) hb); have n2_ := Aside0.mk (blk_below (g := gb167) (o := .cells #[.int .u64 a1_0, .int .u64 a1_1, .int .u64 a1_2, .string a1_3, .string a1_4] 29 (0, 0)) (by (with_reducible repeat (first | refine blk_drewN ?_ _ | refine blk_drew ?_ | refine blk_alloc ?_ _)); exact BK167.out) hb); have n3_ := Aside0.mk (blk_below (g := gb168) (o := .cells #[.int .u64 a2_0, .int .u64 a2_1, .int .u64 a2_2, .string a2_3, .string a2_4] 29 (0, 0)) (by (with_reducible repeat (first | refine blk_drewN ?_ _ | refine blk_drew ?_ | refine blk_alloc ?_ _)); exact BK168.out) hb); have n4_ := Aside0.mk (below_step (by repeat (first | (with_reducible first | exact HB.out | apply below_alloc | apply pw_below_drewN | apply below_drew1 | refine below_set ?_ GE166.out | refine below_set ?_ GE167.out | refine below_set ?_ GE168.out) | exact HB.out)) hb); clear HO180; clear BK166; clear BK167; clear BK168; clear HB; have HO180 := n0_; have BK166 := n1_; have BK167 := n2_; have BK168 := n3_; have HB := n4_; clear n0_ n1_ n2_ n3_ n4_; (try clear hb); (try clear hb2); (try clear hk); (try clear hi)))
                  go_meet
                  case rel => exact ⟨_, (true), (by first | rfl | (simp; done) | (simp [*]; done)), H', ⟨by have := HJ3.out; first | omega | exact Nat.le_refl _⟩, ⟨by (with_reducible repeat (first | refine blk_drewN ?_ _ | refine blk_drew ?_ | refine blk_alloc ?_ _)); exact BK166.out⟩, ⟨by (with_reducible repeat (first | refine blk_drewN ?_ _ | refine blk_drew ?_ | refine blk_alloc ?_ _)); exact BK167.out⟩, ⟨by (with_reducible repeat (first | refine blk_drewN ?_ _ | refine blk_drew ?_ | refine blk_alloc ?_ _)); exact BK168.out⟩, ⟨by repeat (first | (with_reducible first | exact HB.out | apply below_alloc | apply pw_below_drewN | apply below_drew1 | refine below_set ?_ GE166.out | refine below_set ?_ GE167.out | refine below_set ?_ GE168.out) | exact HB.out)⟩⟩
              · rw [if_neg c68] at H
                have c68b0 : (a0_0 == 5) = false := beq_eq_false_iff_ne.mpr c68
                have c68b1 : (a0_0 != 5) = true := bne_iff_ne.mpr c68
                have H' := Aside0.mk H
                clear H
                have hnb99 := NB166_167.out
                have hnc99 := NB167_166.out
                have hnb100 := NB166_168.out
                have hnc100 := NB168_166.out
                have hcz101_0 : wc.cell? ⟨gb166, 0, none⟩ = some (.int .i64 a0_0) := (blk_cell BK166.out 0).trans rfl
                have hcz101_1 : wc.cell? ⟨gb166, 1, none⟩ = some (.int .i64 a0_1) := (blk_cell BK166.out 1).trans rfl
                have hcz101_2 : wc.cell? ⟨gb166, 2, none⟩ = some (.int .u64 a0_2) := (blk_cell BK166.out 2).trans rfl
                have hcz101_3 : wc.cell? ⟨gb166, 3, none⟩ = some (.int .u64 a0_3) := (blk_cell BK166.out 3).trans rfl
                have hcz101_4 : wc.cell? ⟨gb166, 4, none⟩ = some (.int .u64 a0_4) := (blk_cell BK166.out 4).trans rfl
                have hcz101_5 : wc.cell? ⟨gb166, 5, none⟩ = some (.string a0_5) := (blk_cell BK166.out 5).trans rfl
                have hfz101_0 := blk_frozen BK166.out 0
                have hfz101_1 := blk_frozen BK166.out 1
                have hfz101_2 := blk_frozen BK166.out 2
                have hfz101_3 := blk_frozen BK166.out 3
                have hfz101_4 := blk_frozen BK166.out 4
                have hfz101_5 := blk_frozen BK166.out 5
                go_wp2_with (first | ((with_reducible refine gate_callee (f := 63) rfl ?_); refine goesL_ (some 21) rfl rfl Tryd.func63 (by kernel_rfl) rfl #[.agg #[.int .i64 a0_0, .int .i64 a0_1, .int .u64 a0_2, .int .u64 a0_3, .int .u64 a0_4, .string a0_5]] rfl (by (try simp only [List.map_toArray, List.map_cons, List.map_nil]); first | done | rfl | (simp only [List.length_drop, List.length_take]; rfl)) ?_; (with_reducible refine (spec_GoodTerm.calls kj3 a0_0 a0_1 a0_2 a0_3 a0_4 a0_5 true _ A35.out).mono ?_); rintro e w102 ⟨rfl, hb⟩; refine ⟨_, rfl, ?_⟩; have n0_ := Aside0.mk (blk_below (g := gb166) (o := .cells #[.int .i64 a0_0, .int .i64 a0_1, .int .u64 a0_2, .int .u64 a0_3, .int .u64 a0_4, .string a0_5] 42 (0, 0)) (by (with_reducible repeat (first | refine blk_drewN ?_ _ | refine blk_drew ?_ | refine blk_alloc ?_ _)); exact BK166.out) hb); have n1_ := Aside0.mk (blk_below (g := gb167) (o := .cells #[.int .u64 a1_0, .int .u64 a1_1, .int .u64 a1_2, .string a1_3, .string a1_4] 29 (0, 0)) (by (with_reducible repeat (first | refine blk_drewN ?_ _ | refine blk_drew ?_ | refine blk_alloc ?_ _)); exact BK167.out) hb); have n2_ := Aside0.mk (blk_below (g := gb168) (o := .cells #[.int .u64 a2_0, .int .u64 a2_1, .int .u64 a2_2, .string a2_3, .string a2_4] 29 (0, 0)) (by (with_reducible repeat (first | refine blk_drewN ?_ _ | refine blk_drew ?_ | refine blk_alloc ?_ _)); exact BK168.out) hb); have n3_ := Aside0.mk (below_step (by repeat (first | (with_reducible first | exact HB.out | apply below_alloc | apply pw_below_drewN | apply below_drew1 | refine below_set ?_ GE166.out | refine below_set ?_ GE167.out | refine below_set ?_ GE168.out) | exact HB.out)) hb); clear BK166; clear BK167; clear BK168; clear HB; have BK166 := n0_; have BK167 := n1_; have BK168 := n2_; have HB := n3_; clear n0_ n1_ n2_ n3_; (try clear hb); (try clear hb2); (try clear hk); (try clear hi); have hcz103_0 : w102.cell? ⟨gb166, 0, none⟩ = some (.int .i64 a0_0) := (blk_cell BK166.out 0).trans rfl; have hcz103_1 : w102.cell? ⟨gb166, 1, none⟩ = some (.int .i64 a0_1) := (blk_cell BK166.out 1).trans rfl; have hcz103_2 : w102.cell? ⟨gb166, 2, none⟩ = some (.int .u64 a0_2) := (blk_cell BK166.out 2).trans rfl; have hcz103_3 : w102.cell? ⟨gb166, 3, none⟩ = some (.int .u64 a0_3) := (blk_cell BK166.out 3).trans rfl; have hcz103_4 : w102.cell? ⟨gb166, 4, none⟩ = some (.int .u64 a0_4) := (blk_cell BK166.out 4).trans rfl; have hcz103_5 : w102.cell? ⟨gb166, 5, none⟩ = some (.string a0_5) := (blk_cell BK166.out 5).trans rfl; have hfz103_0 := blk_frozen BK166.out 0; have hfz103_1 := blk_frozen BK166.out 1; have hfz103_2 := blk_frozen BK166.out 2; have hfz103_3 := blk_frozen BK166.out 3; have hfz103_4 := blk_frozen BK166.out 4; have hfz103_5 := blk_frozen BK166.out 5))
                go_meet
                case rel => exact ⟨_, (true), (by first | rfl | (simp; done) | (simp [*]; done)), H', ⟨by have := HJ3.out; first | omega | exact Nat.le_refl _⟩, ⟨by (with_reducible repeat (first | refine blk_drewN ?_ _ | refine blk_drew ?_ | refine blk_alloc ?_ _)); exact BK166.out⟩, ⟨by (with_reducible repeat (first | refine blk_drewN ?_ _ | refine blk_drew ?_ | refine blk_alloc ?_ _)); exact BK167.out⟩, ⟨by (with_reducible repeat (first | refine blk_drewN ?_ _ | refine blk_drew ?_ | refine blk_alloc ?_ _)); exact BK168.out⟩, ⟨by repeat (first | (with_reducible first | exact HB.out | apply below_alloc | apply pw_below_drewN | apply below_drew1 | refine below_set ?_ GE166.out | refine below_set ?_ GE167.out | refine below_set ?_ GE168.out) | exact HB.out)⟩⟩
          · replace c36 := Bool.eq_false_iff.mpr c36
            subst c36
            have H1 : (laws_FnSemverTermDown.j1 kj3 true a0_0 a0_1 a0_2 a0_3 a0_4 a0_5 a1_0 a1_1 a1_2 a1_3 a1_4 a2_0 a2_1 a2_2 a2_3 a2_4) = some r := by rw [if_neg (show ¬ (false = true) by decide)] at H; exact H
            clear H
            have H := H1
            clear H1
            have H' := Aside0.mk H
            clear H
            have hnb104 := NB166_167.out
            have hnc104 := NB167_166.out
            have hnb105 := NB166_168.out
            have hnc105 := NB168_166.out
            have hcz106_0 : wc.cell? ⟨gb166, 0, none⟩ = some (.int .i64 a0_0) := (blk_cell BK166.out 0).trans rfl
            have hcz106_1 : wc.cell? ⟨gb166, 1, none⟩ = some (.int .i64 a0_1) := (blk_cell BK166.out 1).trans rfl
            have hcz106_2 : wc.cell? ⟨gb166, 2, none⟩ = some (.int .u64 a0_2) := (blk_cell BK166.out 2).trans rfl
            have hcz106_3 : wc.cell? ⟨gb166, 3, none⟩ = some (.int .u64 a0_3) := (blk_cell BK166.out 3).trans rfl
            have hcz106_4 : wc.cell? ⟨gb166, 4, none⟩ = some (.int .u64 a0_4) := (blk_cell BK166.out 4).trans rfl
            have hcz106_5 : wc.cell? ⟨gb166, 5, none⟩ = some (.string a0_5) := (blk_cell BK166.out 5).trans rfl
            have hfz106_0 := blk_frozen BK166.out 0
            have hfz106_1 := blk_frozen BK166.out 1
            have hfz106_2 := blk_frozen BK166.out 2
            have hfz106_3 := blk_frozen BK166.out 3
            have hfz106_4 := blk_frozen BK166.out 4
            have hfz106_5 := blk_frozen BK166.out 5
            go_wp2_with (first | ((with_reducible refine gate_callee (f := 63) rfl ?_); refine goesL_ (some 21) rfl rfl Tryd.func63 (by kernel_rfl) rfl #[.agg #[.int .i64 a0_0, .int .i64 a0_1, .int .u64 a0_2, .int .u64 a0_3, .int .u64 a0_4, .string a0_5]] rfl (by (try simp only [List.map_toArray, List.map_cons, List.map_nil]); first | done | rfl | (simp only [List.length_drop, List.length_take]; rfl)) ?_; (with_reducible refine (spec_GoodTerm.calls kj3 a0_0 a0_1 a0_2 a0_3 a0_4 a0_5 false _ A35.out).mono ?_); rintro e w107 ⟨rfl, hb⟩; refine ⟨_, rfl, ?_⟩; have n0_ := Aside0.mk (blk_below (g := gb166) (o := .cells #[.int .i64 a0_0, .int .i64 a0_1, .int .u64 a0_2, .int .u64 a0_3, .int .u64 a0_4, .string a0_5] 42 (0, 0)) (by (with_reducible repeat (first | refine blk_drewN ?_ _ | refine blk_drew ?_ | refine blk_alloc ?_ _)); exact BK166.out) hb); have n1_ := Aside0.mk (blk_below (g := gb167) (o := .cells #[.int .u64 a1_0, .int .u64 a1_1, .int .u64 a1_2, .string a1_3, .string a1_4] 29 (0, 0)) (by (with_reducible repeat (first | refine blk_drewN ?_ _ | refine blk_drew ?_ | refine blk_alloc ?_ _)); exact BK167.out) hb); have n2_ := Aside0.mk (blk_below (g := gb168) (o := .cells #[.int .u64 a2_0, .int .u64 a2_1, .int .u64 a2_2, .string a2_3, .string a2_4] 29 (0, 0)) (by (with_reducible repeat (first | refine blk_drewN ?_ _ | refine blk_drew ?_ | refine blk_alloc ?_ _)); exact BK168.out) hb); have n3_ := Aside0.mk (below_step (by repeat (first | (with_reducible first | exact HB.out | apply below_alloc | apply pw_below_drewN | apply below_drew1 | refine below_set ?_ GE166.out | refine below_set ?_ GE167.out | refine below_set ?_ GE168.out) | exact HB.out)) hb); clear BK166; clear BK167; clear BK168; clear HB; have BK166 := n0_; have BK167 := n1_; have BK168 := n2_; have HB := n3_; clear n0_ n1_ n2_ n3_; (try clear hb); (try clear hb2); (try clear hk); (try clear hi)))
            go_meet
            case rel => exact ⟨_, (true), (by first | rfl | (simp; done) | (simp [*]; done)), H', ⟨by have := HJ3.out; first | omega | exact Nat.le_refl _⟩, ⟨by (with_reducible repeat (first | refine blk_drewN ?_ _ | refine blk_drew ?_ | refine blk_alloc ?_ _)); exact BK166.out⟩, ⟨by (with_reducible repeat (first | refine blk_drewN ?_ _ | refine blk_drew ?_ | refine blk_alloc ?_ _)); exact BK167.out⟩, ⟨by (with_reducible repeat (first | refine blk_drewN ?_ _ | refine blk_drew ?_ | refine blk_alloc ?_ _)); exact BK168.out⟩, ⟨by repeat (first | (with_reducible first | exact HB.out | apply below_alloc | apply pw_below_drewN | apply below_drew1 | refine below_set ?_ GE166.out | refine below_set ?_ GE167.out | refine below_set ?_ GE168.out) | exact HB.out)⟩⟩
        case rest =>
          clear HC34
          try clear c1
          try clear c2
          try clear p2
          try clear c3
          try clear c4
          try clear c5
          try clear c6
          try clear c7
          try clear c8
          try clear c9
          try clear c10
          try clear c11
          try clear c13
          try clear c14
          try clear c16
          try clear c17
          try clear c22
          try clear c23
          try clear c26
          try clear c29
          try clear c30
          try clear c33
          try clear c36
          try clear c37
          try clear c37b0
          try clear c37b1
          try clear c39
          try clear c41
          try clear c42
          try clear c46
          try clear c56
          try clear c57
          try clear c61
          try clear c63
          try clear c68
          try clear c68b0
          try clear c68b1
          try clear c70
          try clear c72
          try clear c73
          try clear c77
          try clear c87
          try clear c88
          try clear c92
          try clear c99
          try clear c100
          try clear c104
          try clear c105
          try clear hcz101_0
          try clear hcz101_1
          try clear hcz101_2
          try clear hcz101_3
          try clear hcz101_4
          try clear hcz101_5
          try clear hcz103_0
          try clear hcz103_1
          try clear hcz103_2
          try clear hcz103_3
          try clear hcz103_4
          try clear hcz103_5
          try clear hcz106_0
          try clear hcz106_1
          try clear hcz106_2
          try clear hcz106_3
          try clear hcz106_4
          try clear hcz106_5
          try clear hcz15_0
          try clear hcz15_1
          try clear hcz15_2
          try clear hcz15_3
          try clear hcz15_4
          try clear hcz15_5
          try clear hcz18_0
          try clear hcz18_1
          try clear hcz18_2
          try clear hcz18_3
          try clear hcz18_4
          try clear hcz20_0
          try clear hcz20_1
          try clear hcz20_2
          try clear hcz20_3
          try clear hcz20_4
          try clear hcz24_0
          try clear hcz24_1
          try clear hcz24_2
          try clear hcz24_3
          try clear hcz24_4
          try clear hcz24_5
          try clear hcz27_0
          try clear hcz27_1
          try clear hcz27_2
          try clear hcz27_3
          try clear hcz27_4
          try clear hcz31_0
          try clear hcz31_1
          try clear hcz31_2
          try clear hcz31_3
          try clear hcz31_4
          try clear hcz31_5
          try clear hcz43_0
          try clear hcz43_1
          try clear hcz43_2
          try clear hcz43_3
          try clear hcz43_4
          try clear hcz43_5
          try clear hcz45_0
          try clear hcz45_1
          try clear hcz45_2
          try clear hcz45_3
          try clear hcz45_4
          try clear hcz45_5
          try clear hcz47_0
          try clear hcz47_1
          try clear hcz47_2
          try clear hcz47_3
          try clear hcz47_4
          try clear hcz48_0
          try clear hcz48_1
          try clear hcz48_2
          try clear hcz48_3
          try clear hcz48_4
          try clear hcz53_0
          try clear hcz53_1
          try clear hcz53_2
          try clear hcz53_3
          try clear hcz53_4
          try clear hcz54_0
          try clear hcz54_1
          try clear hcz54_2
          try clear hcz54_3
          try clear hcz54_4
          try clear hcz58_0
          try clear hcz58_1
          try clear hcz58_2
          try clear hcz58_3
          try clear hcz58_4
          try clear hcz58_5
          try clear hcz60_0
          try clear hcz60_1
          try clear hcz60_2
          try clear hcz60_3
          try clear hcz60_4
          try clear hcz60_5
          try clear hcz62_0
          try clear hcz62_1
          try clear hcz62_2
          try clear hcz62_3
          try clear hcz62_4
          try clear hcz63_0
          try clear hcz63_1
          try clear hcz63_2
          try clear hcz63_3
          try clear hcz63_4
          try clear hcz74_0
          try clear hcz74_1
          try clear hcz74_2
          try clear hcz74_3
          try clear hcz74_4
          try clear hcz74_5
          try clear hcz76_0
          try clear hcz76_1
          try clear hcz76_2
          try clear hcz76_3
          try clear hcz76_4
          try clear hcz76_5
          try clear hcz78_0
          try clear hcz78_1
          try clear hcz78_2
          try clear hcz78_3
          try clear hcz78_4
          try clear hcz79_0
          try clear hcz79_1
          try clear hcz79_2
          try clear hcz79_3
          try clear hcz79_4
          try clear hcz84_0
          try clear hcz84_1
          try clear hcz84_2
          try clear hcz84_3
          try clear hcz84_4
          try clear hcz85_0
          try clear hcz85_1
          try clear hcz85_2
          try clear hcz85_3
          try clear hcz85_4
          try clear hcz89_0
          try clear hcz89_1
          try clear hcz89_2
          try clear hcz89_3
          try clear hcz89_4
          try clear hcz89_5
          try clear hcz91_0
          try clear hcz91_1
          try clear hcz91_2
          try clear hcz91_3
          try clear hcz91_4
          try clear hcz91_5
          try clear hcz93_0
          try clear hcz93_1
          try clear hcz93_2
          try clear hcz93_3
          try clear hcz93_4
          try clear hcz94_0
          try clear hcz94_1
          try clear hcz94_2
          try clear hcz94_3
          try clear hcz94_4
          try clear hfz101_0
          try clear hfz101_1
          try clear hfz101_2
          try clear hfz101_3
          try clear hfz101_4
          try clear hfz101_5
          try clear hfz103_0
          try clear hfz103_1
          try clear hfz103_2
          try clear hfz103_3
          try clear hfz103_4
          try clear hfz103_5
          try clear hfz106_0
          try clear hfz106_1
          try clear hfz106_2
          try clear hfz106_3
          try clear hfz106_4
          try clear hfz106_5
          try clear hfz15_0
          try clear hfz15_1
          try clear hfz15_2
          try clear hfz15_3
          try clear hfz15_4
          try clear hfz15_5
          try clear hfz18_0
          try clear hfz18_1
          try clear hfz18_2
          try clear hfz18_3
          try clear hfz18_4
          try clear hfz20_0
          try clear hfz20_1
          try clear hfz20_2
          try clear hfz20_3
          try clear hfz20_4
          try clear hfz24_0
          try clear hfz24_1
          try clear hfz24_2
          try clear hfz24_3
          try clear hfz24_4
          try clear hfz24_5
          try clear hfz27_0
          try clear hfz27_1
          try clear hfz27_2
          try clear hfz27_3
          try clear hfz27_4
          try clear hfz31_0
          try clear hfz31_1
          try clear hfz31_2
          try clear hfz31_3
          try clear hfz31_4
          try clear hfz31_5
          try clear hfz43_0
          try clear hfz43_1
          try clear hfz43_2
          try clear hfz43_3
          try clear hfz43_4
          try clear hfz43_5
          try clear hfz45_0
          try clear hfz45_1
          try clear hfz45_2
          try clear hfz45_3
          try clear hfz45_4
          try clear hfz45_5
          try clear hfz47_0
          try clear hfz47_1
          try clear hfz47_2
          try clear hfz47_3
          try clear hfz47_4
          try clear hfz48_0
          try clear hfz48_1
          try clear hfz48_2
          try clear hfz48_3
          try clear hfz48_4
          try clear hfz53_0
          try clear hfz53_1
          try clear hfz53_2
          try clear hfz53_3
          try clear hfz53_4
          try clear hfz54_0
          try clear hfz54_1
          try clear hfz54_2
          try clear hfz54_3
          try clear hfz54_4
          try clear hfz58_0
          try clear hfz58_1
          try clear hfz58_2
          try clear hfz58_3
          try clear hfz58_4
          try clear hfz58_5
          try clear hfz60_0
          try clear hfz60_1
          try clear hfz60_2
          try clear hfz60_3
          try clear hfz60_4
          try clear hfz60_5
          try clear hfz62_0
          try clear hfz62_1
          try clear hfz62_2
          try clear hfz62_3
          try clear hfz62_4
          try clear hfz63_0
          try clear hfz63_1
          try clear hfz63_2
          try clear hfz63_3
          try clear hfz63_4
          try clear hfz74_0
          try clear hfz74_1
          try clear hfz74_2
          try clear hfz74_3
          try clear hfz74_4
          try clear hfz74_5
          try clear hfz76_0
          try clear hfz76_1
          try clear hfz76_2
          try clear hfz76_3
          try clear hfz76_4
          try clear hfz76_5
          try clear hfz78_0
          try clear hfz78_1
          try clear hfz78_2
          try clear hfz78_3
          try clear hfz78_4
          try clear hfz79_0
          try clear hfz79_1
          try clear hfz79_2
          try clear hfz79_3
          try clear hfz79_4
          try clear hfz84_0
          try clear hfz84_1
          try clear hfz84_2
          try clear hfz84_3
          try clear hfz84_4
          try clear hfz85_0
          try clear hfz85_1
          try clear hfz85_2
          try clear hfz85_3
          try clear hfz85_4
          try clear hfz89_0
          try clear hfz89_1
          try clear hfz89_2
          try clear hfz89_3
          try clear hfz89_4
          try clear hfz89_5
          try clear hfz91_0
          try clear hfz91_1
          try clear hfz91_2
          try clear hfz91_3
          try clear hfz91_4
          try clear hfz91_5
          try clear hfz93_0
          try clear hfz93_1
          try clear hfz93_2
          try clear hfz93_3
          try clear hfz93_4
          try clear hfz94_0
          try clear hfz94_1
          try clear hfz94_2
          try clear hfz94_3
          try clear hfz94_4
          try clear p2
          obtain ⟨kq, x45_33, rfl, HA, HJ33, BK166, BK167, BK168, HB⟩ := hcut
          cases kq with
          | zero => exact absurd HA.out (by simp [laws_FnSemverTermDown.j1])
          | succ kj33 =>
            have H := HA.out
            clear HA
            simp only [laws_FnSemverTermDown.j1] at H
            by_cases c108 : x45_33 = true
            · subst c108
              have H1 : (some true) = some r := by rw [if_pos rfl] at H; exact H
              clear H
              have H := H1
              clear H1
              obtain rfl := Option.some.inj H
              go_wp2
              go_ret
              exact ⟨by first | rfl | (simp [errW_none, errW_some] <;> rfl) | (simp [*, errW_none, errW_some] <;> rfl), by repeat (first | (with_reducible first | exact HB.out | apply below_alloc | apply pw_below_drewN | apply below_drew1 | refine below_set ?_ GE166.out | refine below_set ?_ GE167.out | refine below_set ?_ GE168.out) | exact HB.out)⟩
            · replace c108 := Bool.eq_false_iff.mpr c108
              subst c108
              have H1 : ((Hand.TermDown.f a0_0 a0_1 a0_2 a0_3 a0_4 a0_5 a2_0 a2_1 a2_2 a2_3 a2_4 true).bind fun t183 => (if t183 = true then ((Hand.TermDown.f a0_0 a0_1 a0_2 a0_3 a0_4 a0_5 a1_0 a1_1 a1_2 a1_3 a1_4 true).bind fun t184 => (if t184 = true then ((spec_Least.f a0_0 a0_1 a0_2 a0_3 a0_4 a0_5).bind fun bt185 => ((Hand.TermDown.f a0_0 a0_1 a0_2 a0_3 a0_4 a0_5 bt185.1 bt185.2.1 bt185.2.2.1 bt185.2.2.2.1 bt185.2.2.2.2 true).bind fun t190 => (some (t190 == (a0_0 == 5))))) else (some false))) else ((spec_Least.f a0_0 a0_1 a0_2 a0_3 a0_4 a0_5).bind fun bt191 => ((Hand.TermDown.f a0_0 a0_1 a0_2 a0_3 a0_4 a0_5 bt191.1 bt191.2.1 bt191.2.2.1 bt191.2.2.2.1 bt191.2.2.2.2 true).bind fun t196 => (some (t196 == (a0_0 == 5))))))) = some r := by rw [if_neg (show ¬ (false = true) by decide)] at H; exact H
              clear H
              have H := H1
              clear H1
              replace H := Option.bind_eq_some_iff.mp H
              obtain ⟨t183, A1090, H⟩ := H
              replace H : (if t183 = true then ((Hand.TermDown.f a0_0 a0_1 a0_2 a0_3 a0_4 a0_5 a1_0 a1_1 a1_2 a1_3 a1_4 true).bind fun t184 => (if t184 = true then ((spec_Least.f a0_0 a0_1 a0_2 a0_3 a0_4 a0_5).bind fun bt185 => ((Hand.TermDown.f a0_0 a0_1 a0_2 a0_3 a0_4 a0_5 bt185.1 bt185.2.1 bt185.2.2.1 bt185.2.2.2.1 bt185.2.2.2.2 true).bind fun t190 => (some (t190 == (a0_0 == 5))))) else (some false))) else ((spec_Least.f a0_0 a0_1 a0_2 a0_3 a0_4 a0_5).bind fun bt191 => ((Hand.TermDown.f a0_0 a0_1 a0_2 a0_3 a0_4 a0_5 bt191.1 bt191.2.1 bt191.2.2.1 bt191.2.2.2.1 bt191.2.2.2.2 true).bind fun t196 => (some (t196 == (a0_0 == 5)))))) = some r := H
              have A109 := Aside0.mk A1090
              clear A1090
              by_cases c110 : t183 = true
              · subst c110
                have H1 : ((Hand.TermDown.f a0_0 a0_1 a0_2 a0_3 a0_4 a0_5 a1_0 a1_1 a1_2 a1_3 a1_4 true).bind fun t184 => (if t184 = true then ((spec_Least.f a0_0 a0_1 a0_2 a0_3 a0_4 a0_5).bind fun bt185 => ((Hand.TermDown.f a0_0 a0_1 a0_2 a0_3 a0_4 a0_5 bt185.1 bt185.2.1 bt185.2.2.1 bt185.2.2.2.1 bt185.2.2.2.2 true).bind fun t190 => (some (t190 == (a0_0 == 5))))) else (some false))) = some r := by rw [if_pos rfl] at H; exact H
                clear H
                have H := H1
                clear H1
                replace H := Option.bind_eq_some_iff.mp H
                obtain ⟨t184, A1110, H⟩ := H
                replace H : (if t184 = true then ((spec_Least.f a0_0 a0_1 a0_2 a0_3 a0_4 a0_5).bind fun bt185 => ((Hand.TermDown.f a0_0 a0_1 a0_2 a0_3 a0_4 a0_5 bt185.1 bt185.2.1 bt185.2.2.1 bt185.2.2.2.1 bt185.2.2.2.2 true).bind fun t190 => (some (t190 == (a0_0 == 5))))) else (some false)) = some r := H
                have A111 := Aside0.mk A1110
                clear A1110
                by_cases c112 : t184 = true
                · subst c112
                  have H1 : ((spec_Least.f a0_0 a0_1 a0_2 a0_3 a0_4 a0_5).bind fun bt185 => ((Hand.TermDown.f a0_0 a0_1 a0_2 a0_3 a0_4 a0_5 bt185.1 bt185.2.1 bt185.2.2.1 bt185.2.2.2.1 bt185.2.2.2.2 true).bind fun t190 => (some (t190 == (a0_0 == 5))))) = some r := by rw [if_pos rfl] at H; exact H
                  clear H
                  have H := H1
                  clear H1
                  replace H := Option.bind_eq_some_iff.mp H
                  obtain ⟨⟨t185, t186, t187, t188, t189⟩, A1130, H⟩ := H
                  replace H : ((Hand.TermDown.f a0_0 a0_1 a0_2 a0_3 a0_4 a0_5 t185 t186 t187 t188 t189 true).bind fun t190 => (some (t190 == (a0_0 == 5)))) = some r := H
                  have A113 := Aside0.mk A1130
                  clear A1130
                  replace H := Option.bind_eq_some_iff.mp H
                  obtain ⟨t190, A1140, H⟩ := H
                  replace H : (some (t190 == (a0_0 == 5))) = some r := H
                  have A114 := Aside0.mk A1140
                  clear A1140
                  obtain rfl := Option.some.inj H
                  try go_wp2
                  have n0_ := Aside0.mk (blk_drew BK166.out)
                  have n1_ := Aside0.mk (blk_drew BK167.out)
                  have n2_ := Aside0.mk (blk_drew BK168.out)
                  have n3_ := Aside0.mk (below_drew1 HB.out)
                  clear BK166
                  clear BK167
                  clear BK168
                  clear HB
                  have BK166 := n0_
                  have BK167 := n1_
                  have BK168 := n2_
                  have HB := n3_
                  clear n0_ n1_ n2_ n3_
                  refine start_ (n := 20) (S := fun w' => w'.cell? ⟨gb166, 0, none⟩ = some (.int .i64 a0_0) ∧ w'.cell? ⟨gb166, 1, none⟩ = some (.int .i64 a0_1) ∧ w'.cell? ⟨gb166, 2, none⟩ = some (.int .u64 a0_2) ∧ w'.cell? ⟨gb166, 3, none⟩ = some (.int .u64 a0_3) ∧ w'.cell? ⟨gb166, 4, none⟩ = some (.int .u64 a0_4) ∧ w'.cell? ⟨gb166, 5, none⟩ = some (.string a0_5) ∧ w'.cell? ⟨gb168, 0, none⟩ = some (.int .u64 a2_0) ∧ w'.cell? ⟨gb168, 1, none⟩ = some (.int .u64 a2_1) ∧ w'.cell? ⟨gb168, 2, none⟩ = some (.int .u64 a2_2) ∧ w'.cell? ⟨gb168, 3, none⟩ = some (.string a2_3) ∧ w'.cell? ⟨gb168, 4, none⟩ = some (.string a2_4) ∧ w'.cell? ⟨gb167, 0, none⟩ = some (.int .u64 a1_0) ∧ w'.cell? ⟨gb167, 1, none⟩ = some (.int .u64 a1_1) ∧ w'.cell? ⟨gb167, 2, none⟩ = some (.int .u64 a1_2) ∧ w'.cell? ⟨gb167, 3, none⟩ = some (.string a1_3) ∧ w'.cell? ⟨gb167, 4, none⟩ = some (.string a1_4)) (ds := []) #[false, false, false, false, false, false, false, false, false, false, false, false, false, false, false, false, false, false, false, false] (by kernel_rfl) rfl rfl ⟨(blk_cell BK166.out 0).trans rfl, (blk_cell BK166.out 1).trans rfl, (blk_cell BK166.out 2).trans rfl, (blk_cell BK166.out 3).trans rfl, (blk_cell BK166.out 4).trans rfl, (blk_cell BK166.out 5).trans rfl, (blk_cell BK168.out 0).trans rfl, (blk_cell BK168.out 1).trans rfl, (blk_cell BK168.out 2).trans rfl, (blk_cell BK168.out 3).trans rfl, (blk_cell BK168.out 4).trans rfl, (blk_cell BK167.out 0).trans rfl, (blk_cell BK167.out 1).trans rfl, (blk_cell BK167.out 2).trans rfl, (blk_cell BK167.out 3).trans rfl, (blk_cell BK167.out 4).trans rfl⟩ (fun hHeld => ?_); refine with_tabW laws_FnSemverTermDown.tab5 laws_FnSemverTermDown.bits5 (fun HT_ HW_ => ?_)
                  generalize wc.drew = w115 at BK166 BK167 BK168 HB hHeld ⊢
                  refine take_ (i := 0) (N := some 46) (v := ?_) (a' := ?_) #[true, false, false, false, false, false, false, false, false, false, false, false, false, false, false, false, false, false, false, false] rfl rfl (take_ofW HT_.out HW_.out (by kernel_rfl)) (fun _ _ _ h => h) (Or.inl ⟨by rfl, ?_⟩) hHeld ?_ ?_
                  rotate_left
                  · rintro w' ⟨s0, s1, s2, s3, s4, s5, s6, s7, s8, s9, s10, s11, s12, s13, s14, s15⟩
                    go_simp
                    with_reducible rfl
                  rotate_left
                  · simp only [Act.put, List.setIfInBounds_toArray, List.set_cons_zero, List.set_cons_succ, i64_w, i32_w]
                    rfl
                  refine take_ (i := 1) (N := some 47) (v := ?_) (a' := ?_) #[true, true, false, false, false, false, false, false, false, false, false, false, false, false, false, false, false, false, false, false] rfl rfl (take_ofW HT_.out HW_.out (by kernel_rfl)) (fun _ _ _ h => h) (Or.inl ⟨by rfl, ?_⟩) hHeld ?_ ?_
                  rotate_left
                  · rintro w' ⟨s0, s1, s2, s3, s4, s5, s6, s7, s8, s9, s10, s11, s12, s13, s14, s15⟩
                    go_simp
                    with_reducible rfl
                  rotate_left
                  · simp only [Act.put, List.setIfInBounds_toArray, List.set_cons_zero, List.set_cons_succ, i64_w, i32_w]
                    rfl
                  refine one_ (i := 2) (N := some 48) #[true, true, true, false, false, false, false, false, false, false, false, false, false, false, false, false, false, false, false, false] rfl rfl (one_of HT_.out (by kernel_rfl)) (by decide) (fun K hK => ?_)
                  refine goes_ Tryd.func65 (by kernel_rfl) rfl #[.agg #[.int .i64 a0_0, .int .i64 a0_1, .int .u64 a0_2, .int .u64 a0_3, .int .u64 a0_4, .string a0_5], .agg #[.int .u64 a2_0, .int .u64 a2_1, .int .u64 a2_2, .string a2_3, .string a2_4], .bool true] (by rfl) rfl rfl (by (try simp only [List.map_toArray, List.map_cons, List.map_nil]); first | done | rfl | (simp only [List.length_drop, List.length_take]; rfl)) ?_
                  with_reducible refine (Hand.TermDown.calls a0_0 a0_1 a0_2 a0_3 a0_4 a0_5 a2_0 a2_1 a2_2 a2_3 a2_4 true true _ ?gl1 A109.out).mono ?_
                  case gl1 => (first | exact HG.out | exact Hand.Gl.below HG.out (by repeat (first | (with_reducible first | exact HB.out | apply below_alloc | apply pw_below_drewN | apply below_drew1) | exact HB.out)))
                  rintro e w116 ⟨rfl, hb⟩
                  refine ⟨_, rfl, ?_⟩
                  have n0_ := Aside0.mk (blk_below (g := gb166) (o := .cells #[.int .i64 a0_0, .int .i64 a0_1, .int .u64 a0_2, .int .u64 a0_3, .int .u64 a0_4, .string a0_5] 42 (0, 0)) (by (with_reducible repeat (first | refine blk_drewN ?_ _ | refine blk_drew ?_ | refine blk_alloc ?_ _)); exact BK166.out) hb)
                  have n1_ := Aside0.mk (blk_below (g := gb167) (o := .cells #[.int .u64 a1_0, .int .u64 a1_1, .int .u64 a1_2, .string a1_3, .string a1_4] 29 (0, 0)) (by (with_reducible repeat (first | refine blk_drewN ?_ _ | refine blk_drew ?_ | refine blk_alloc ?_ _)); exact BK167.out) hb)
                  have n2_ := Aside0.mk (blk_below (g := gb168) (o := .cells #[.int .u64 a2_0, .int .u64 a2_1, .int .u64 a2_2, .string a2_3, .string a2_4] 29 (0, 0)) (by (with_reducible repeat (first | refine blk_drewN ?_ _ | refine blk_drew ?_ | refine blk_alloc ?_ _)); exact BK168.out) hb)
                  have n3_ := Aside0.mk (below_step (by repeat (first | (with_reducible first | exact HB.out | apply below_alloc | apply pw_below_drewN | apply below_drew1 | refine below_set ?_ GE166.out | refine below_set ?_ GE167.out | refine below_set ?_ GE168.out) | exact HB.out)) hb)
                  clear BK166
                  clear BK167
                  clear BK168
                  clear HB
                  have BK166 := n0_
                  have BK167 := n1_
                  have BK168 := n2_
                  have HB := n3_
                  clear n0_ n1_ n2_ n3_
                  (try clear hb)
                  (try clear hb2)
                  (try clear hk)
                  (try clear hi)
                  refine hK.out _ _ ⟨(blk_cell BK166.out 0).trans rfl, (blk_cell BK166.out 1).trans rfl, (blk_cell BK166.out 2).trans rfl, (blk_cell BK166.out 3).trans rfl, (blk_cell BK166.out 4).trans rfl, (blk_cell BK166.out 5).trans rfl, (blk_cell BK168.out 0).trans rfl, (blk_cell BK168.out 1).trans rfl, (blk_cell BK168.out 2).trans rfl, (blk_cell BK168.out 3).trans rfl, (blk_cell BK168.out 4).trans rfl, (blk_cell BK167.out 0).trans rfl, (blk_cell BK167.out 1).trans rfl, (blk_cell BK167.out 2).trans rfl, (blk_cell BK167.out 3).trans rfl, (blk_cell BK167.out 4).trans rfl⟩ (fun hHeld => ?_)
                  clear hK K
                  refine norm_ (a' := ?_) ?_ ?_
                  rotate_left
                  · show Act.put _ (some 48) _ = _
                    simp only [Act.put, List.setIfInBounds_toArray, List.set_cons_zero, List.set_cons_succ, i64_w, i32_w]
                    rfl
                  refine pure_ (i := 3) (N := some 49) (v := ?_) (a' := ?_) #[true, true, true, true, false, false, false, false, false, false, false, false, false, false, false, false, false, false, false, false] rfl rfl (any_of HT_.out (by kernel_rfl)) (fun _ _ _ h => h) (Or.inl ⟨by rfl, ?_⟩) ?_ ?_
                  rotate_left
                  · intro w'
                    go_simp
                    with_reducible rfl
                  rotate_left
                  · simp only [Act.put, List.setIfInBounds_toArray, List.set_cons_zero, List.set_cons_succ, i64_w, i32_w]
                    rfl
                  refine pure_ (i := 4) (N := some 50) (v := ?_) (a' := ?_) #[true, true, true, true, true, false, false, false, false, false, false, false, false, false, false, false, false, false, false, false] rfl rfl (any_of HT_.out (by kernel_rfl)) (fun _ _ _ h => h) (Or.inl ⟨by rfl, ?_⟩) ?_ ?_
                  rotate_left
                  · intro w'
                    go_simp
                    with_reducible rfl
                  rotate_left
                  · simp only [Act.put, List.setIfInBounds_toArray, List.set_cons_zero, List.set_cons_succ, i64_w, i32_w]
                    rfl
                  refine take_ (i := 5) (N := some 51) (v := ?_) (a' := ?_) #[true, true, true, true, true, true, false, false, false, false, false, false, false, false, false, false, false, false, false, false] rfl rfl (take_ofW HT_.out HW_.out (by kernel_rfl)) (fun _ _ _ h => h) (Or.inl ⟨by rfl, ?_⟩) hHeld ?_ ?_
                  rotate_left
                  · rintro w' ⟨s0, s1, s2, s3, s4, s5, s6, s7, s8, s9, s10, s11, s12, s13, s14, s15⟩
                    go_simp
                    with_reducible rfl
                  rotate_left
                  · simp only [Act.put, List.setIfInBounds_toArray, List.set_cons_zero, List.set_cons_succ, i64_w, i32_w]
                    rfl
                  refine take_ (i := 6) (N := some 52) (v := ?_) (a' := ?_) #[true, true, true, true, true, true, true, false, false, false, false, false, false, false, false, false, false, false, false, false] rfl rfl (take_ofW HT_.out HW_.out (by kernel_rfl)) (fun _ _ _ h => h) (Or.inl ⟨by rfl, ?_⟩) hHeld ?_ ?_
                  rotate_left
                  · rintro w' ⟨s0, s1, s2, s3, s4, s5, s6, s7, s8, s9, s10, s11, s12, s13, s14, s15⟩
                    go_simp
                    with_reducible rfl
                  rotate_left
                  · simp only [Act.put, List.setIfInBounds_toArray, List.set_cons_zero, List.set_cons_succ, i64_w, i32_w]
                    rfl
                  refine one_ (i := 7) (N := some 53) #[true, true, true, true, true, true, true, true, false, false, false, false, false, false, false, false, false, false, false, false] rfl rfl (one_of HT_.out (by kernel_rfl)) (by decide) (fun K hK => ?_)
                  refine goes_ Tryd.func65 (by kernel_rfl) rfl #[.agg #[.int .i64 a0_0, .int .i64 a0_1, .int .u64 a0_2, .int .u64 a0_3, .int .u64 a0_4, .string a0_5], .agg #[.int .u64 a1_0, .int .u64 a1_1, .int .u64 a1_2, .string a1_3, .string a1_4], .bool true] (by rfl) rfl rfl (by (try simp only [List.map_toArray, List.map_cons, List.map_nil]); first | done | rfl | (simp only [List.length_drop, List.length_take]; rfl)) ?_
                  with_reducible refine (Hand.TermDown.calls a0_0 a0_1 a0_2 a0_3 a0_4 a0_5 a1_0 a1_1 a1_2 a1_3 a1_4 true true _ ?gl2 A111.out).mono ?_
                  case gl2 => (first | exact HG.out | exact Hand.Gl.below HG.out (by repeat (first | (with_reducible first | exact HB.out | apply below_alloc | apply pw_below_drewN | apply below_drew1) | exact HB.out)))
                  rintro e w117 ⟨rfl, hb⟩
                  refine ⟨_, rfl, ?_⟩
                  have n0_ := Aside0.mk (blk_below (g := gb166) (o := .cells #[.int .i64 a0_0, .int .i64 a0_1, .int .u64 a0_2, .int .u64 a0_3, .int .u64 a0_4, .string a0_5] 42 (0, 0)) (by (with_reducible repeat (first | refine blk_drewN ?_ _ | refine blk_drew ?_ | refine blk_alloc ?_ _)); exact BK166.out) hb)
                  have n1_ := Aside0.mk (blk_below (g := gb167) (o := .cells #[.int .u64 a1_0, .int .u64 a1_1, .int .u64 a1_2, .string a1_3, .string a1_4] 29 (0, 0)) (by (with_reducible repeat (first | refine blk_drewN ?_ _ | refine blk_drew ?_ | refine blk_alloc ?_ _)); exact BK167.out) hb)
                  have n2_ := Aside0.mk (blk_below (g := gb168) (o := .cells #[.int .u64 a2_0, .int .u64 a2_1, .int .u64 a2_2, .string a2_3, .string a2_4] 29 (0, 0)) (by (with_reducible repeat (first | refine blk_drewN ?_ _ | refine blk_drew ?_ | refine blk_alloc ?_ _)); exact BK168.out) hb)
                  have n3_ := Aside0.mk (below_step (by repeat (first | (with_reducible first | exact HB.out | apply below_alloc | apply pw_below_drewN | apply below_drew1 | refine below_set ?_ GE166.out | refine below_set ?_ GE167.out | refine below_set ?_ GE168.out) | exact HB.out)) hb)
                  clear BK166
                  clear BK167
                  clear BK168
                  clear HB
                  have BK166 := n0_
                  have BK167 := n1_
                  have BK168 := n2_
                  have HB := n3_
                  clear n0_ n1_ n2_ n3_
                  (try clear hb)
                  (try clear hb2)
                  (try clear hk)
                  (try clear hi)
                  refine hK.out _ _ ⟨(blk_cell BK166.out 0).trans rfl, (blk_cell BK166.out 1).trans rfl, (blk_cell BK166.out 2).trans rfl, (blk_cell BK166.out 3).trans rfl, (blk_cell BK166.out 4).trans rfl, (blk_cell BK166.out 5).trans rfl, (blk_cell BK168.out 0).trans rfl, (blk_cell BK168.out 1).trans rfl, (blk_cell BK168.out 2).trans rfl, (blk_cell BK168.out 3).trans rfl, (blk_cell BK168.out 4).trans rfl, (blk_cell BK167.out 0).trans rfl, (blk_cell BK167.out 1).trans rfl, (blk_cell BK167.out 2).trans rfl, (blk_cell BK167.out 3).trans rfl, (blk_cell BK167.out 4).trans rfl⟩ (fun hHeld => ?_)
                  clear hK K
                  refine norm_ (a' := ?_) ?_ ?_
                  rotate_left
                  · show Act.put _ (some 53) _ = _
                    simp only [Act.put, List.setIfInBounds_toArray, List.set_cons_zero, List.set_cons_succ, i64_w, i32_w]
                    rfl
                  refine pure_ (i := 8) (N := some 54) (v := ?_) (a' := ?_) #[true, true, true, true, true, true, true, true, true, false, false, false, false, false, false, false, false, false, false, false] rfl rfl (any_of HT_.out (by kernel_rfl)) (fun _ _ _ h => h) (Or.inl ⟨by rfl, ?_⟩) ?_ ?_
                  rotate_left
                  · intro w'
                    go_simp
                    with_reducible rfl
                  rotate_left
                  · simp only [Act.put, List.setIfInBounds_toArray, List.set_cons_zero, List.set_cons_succ, i64_w, i32_w]
                    rfl
                  refine pure_ (i := 9) (N := some 55) (v := ?_) (a' := ?_) #[true, true, true, true, true, true, true, true, true, true, false, false, false, false, false, false, false, false, false, false] rfl rfl (any_of HT_.out (by kernel_rfl)) (fun _ _ _ h => h) (Or.inl ⟨by rfl, ?_⟩) ?_ ?_
                  rotate_left
                  · intro w'
                    go_simp
                    with_reducible rfl
                  rotate_left
                  · simp only [Act.put, List.setIfInBounds_toArray, List.set_cons_zero, List.set_cons_succ, i64_w, i32_w]
                    rfl
                  refine pure_ (i := 14) (N := some 60) (v := ?_) (a' := ?_) #[true, true, true, true, true, true, true, true, true, true, false, false, false, false, true, false, false, false, false, false] rfl rfl (any_of HT_.out (by kernel_rfl)) (fun _ _ _ h => h) (Or.inl ⟨by rfl, ?_⟩) ?_ ?_
                  rotate_left
                  · intro w'
                    go_simp
                    with_reducible rfl
                  rotate_left
                  · simp only [Act.put, List.setIfInBounds_toArray, List.set_cons_zero, List.set_cons_succ, i64_w, i32_w]
                    rfl
                  refine take_ (i := 10) (N := some 56) (v := ?_) (a' := ?_) #[true, true, true, true, true, true, true, true, true, true, true, false, false, false, true, false, false, false, false, false] rfl rfl (take_ofW HT_.out HW_.out (by kernel_rfl)) (fun _ _ _ h => h) (Or.inl ⟨by rfl, ?_⟩) hHeld ?_ ?_
                  rotate_left
                  · rintro w' ⟨s0, s1, s2, s3, s4, s5, s6, s7, s8, s9, s10, s11, s12, s13, s14, s15⟩
                    go_simp
                    with_reducible rfl
                  rotate_left
                  · simp only [Act.put, List.setIfInBounds_toArray, List.set_cons_zero, List.set_cons_succ, i64_w, i32_w]
                    rfl
                  refine take_ (i := 11) (N := some 57) (v := ?_) (a' := ?_) #[true, true, true, true, true, true, true, true, true, true, true, true, false, false, true, false, false, false, false, false] rfl rfl (take_ofW HT_.out HW_.out (by kernel_rfl)) (fun _ _ _ h => h) (Or.inl ⟨by rfl, ?_⟩) hHeld ?_ ?_
                  rotate_left
                  · rintro w' ⟨s0, s1, s2, s3, s4, s5, s6, s7, s8, s9, s10, s11, s12, s13, s14, s15⟩
                    go_simp
                    with_reducible rfl
                  rotate_left
                  · simp only [Act.put, List.setIfInBounds_toArray, List.set_cons_zero, List.set_cons_succ, i64_w, i32_w]
                    rfl
                  refine take_ (i := 15) (N := some 61) (v := ?_) (a' := ?_) #[true, true, true, true, true, true, true, true, true, true, true, true, false, false, true, true, false, false, false, false] rfl rfl (take_ofW HT_.out HW_.out (by kernel_rfl)) (fun _ _ _ h => h) (Or.inl ⟨by rfl, ?_⟩) hHeld ?_ ?_
                  rotate_left
                  · rintro w' ⟨s0, s1, s2, s3, s4, s5, s6, s7, s8, s9, s10, s11, s12, s13, s14, s15⟩
                    go_simp
                    with_reducible rfl
                  rotate_left
                  · simp only [Act.put, List.setIfInBounds_toArray, List.set_cons_zero, List.set_cons_succ, i64_w, i32_w]
                    rfl
                  refine pure_ (i := 16) (N := some 62) (v := ?_) (a' := ?_) #[true, true, true, true, true, true, true, true, true, true, true, true, false, false, true, true, true, false, false, false] rfl rfl (any_of HT_.out (by kernel_rfl)) (fun _ _ _ h => h) (Or.inl ⟨by rfl, ?_⟩) ?_ ?_
                  rotate_left
                  · intro w'
                    go_simp
                    with_reducible rfl
                  rotate_left
                  · simp only [Act.put, List.setIfInBounds_toArray, List.set_cons_zero, List.set_cons_succ, i64_w, i32_w]
                    rfl
                  refine one_ (i := 12) (N := some 58) #[true, true, true, true, true, true, true, true, true, true, true, true, true, false, true, true, true, false, false, false] rfl rfl (one_of HT_.out (by kernel_rfl)) (by decide) (fun K hK => ?_)
                  refine goes_ Tryd.func66 (by kernel_rfl) rfl #[.agg #[.int .i64 a0_0, .int .i64 a0_1, .int .u64 a0_2, .int .u64 a0_3, .int .u64 a0_4, .string a0_5]] (by rfl) rfl rfl (by (try simp only [List.map_toArray, List.map_cons, List.map_nil]); first | done | rfl | (simp only [List.length_drop, List.length_take]; rfl)) ?_
                  with_reducible refine (spec_Least.calls a0_0 a0_1 a0_2 a0_3 a0_4 a0_5 t185 t186 t187 t188 t189 _ A113.out).mono ?_
                  rintro e w118 ⟨rfl, hb⟩
                  refine ⟨_, rfl, ?_⟩
                  have n0_ := Aside0.mk (blk_below (g := gb166) (o := .cells #[.int .i64 a0_0, .int .i64 a0_1, .int .u64 a0_2, .int .u64 a0_3, .int .u64 a0_4, .string a0_5] 42 (0, 0)) (by (with_reducible repeat (first | refine blk_drewN ?_ _ | refine blk_drew ?_ | refine blk_alloc ?_ _)); exact BK166.out) hb)
                  have n1_ := Aside0.mk (blk_below (g := gb167) (o := .cells #[.int .u64 a1_0, .int .u64 a1_1, .int .u64 a1_2, .string a1_3, .string a1_4] 29 (0, 0)) (by (with_reducible repeat (first | refine blk_drewN ?_ _ | refine blk_drew ?_ | refine blk_alloc ?_ _)); exact BK167.out) hb)
                  have n2_ := Aside0.mk (blk_below (g := gb168) (o := .cells #[.int .u64 a2_0, .int .u64 a2_1, .int .u64 a2_2, .string a2_3, .string a2_4] 29 (0, 0)) (by (with_reducible repeat (first | refine blk_drewN ?_ _ | refine blk_drew ?_ | refine blk_alloc ?_ _)); exact BK168.out) hb)
                  have n3_ := Aside0.mk (below_step (by repeat (first | (with_reducible first | exact HB.out | apply below_alloc | apply pw_below_drewN | apply below_drew1 | refine below_set ?_ GE166.out | refine below_set ?_ GE167.out | refine below_set ?_ GE168.out) | exact HB.out)) hb)
                  clear BK166
                  clear BK167
                  clear BK168
                  clear HB
                  have BK166 := n0_
                  have BK167 := n1_
                  have BK168 := n2_
                  have HB := n3_
                  clear n0_ n1_ n2_ n3_
                  (try clear hb)
                  (try clear hb2)
                  (try clear hk)
                  (try clear hi)
                  refine hK.out _ _ ⟨(blk_cell BK166.out 0).trans rfl, (blk_cell BK166.out 1).trans rfl, (blk_cell BK166.out 2).trans rfl, (blk_cell BK166.out 3).trans rfl, (blk_cell BK166.out 4).trans rfl, (blk_cell BK166.out 5).trans rfl, (blk_cell BK168.out 0).trans rfl, (blk_cell BK168.out 1).trans rfl, (blk_cell BK168.out 2).trans rfl, (blk_cell BK168.out 3).trans rfl, (blk_cell BK168.out 4).trans rfl, (blk_cell BK167.out 0).trans rfl, (blk_cell BK167.out 1).trans rfl, (blk_cell BK167.out 2).trans rfl, (blk_cell BK167.out 3).trans rfl, (blk_cell BK167.out 4).trans rfl⟩ (fun hHeld => ?_)
                  clear hK K
                  refine norm_ (a' := ?_) ?_ ?_
                  rotate_left
                  · show Act.put _ (some 58) _ = _
                    simp only [Act.put, List.setIfInBounds_toArray, List.set_cons_zero, List.set_cons_succ, i64_w, i32_w]
                    rfl
                  refine one_ (i := 13) (N := some 59) #[true, true, true, true, true, true, true, true, true, true, true, true, true, true, true, true, true, false, false, false] rfl rfl (one_of HT_.out (by kernel_rfl)) (by decide) (fun K hK => ?_)
                  refine goes_ Tryd.func65 (by kernel_rfl) rfl #[.agg #[.int .i64 a0_0, .int .i64 a0_1, .int .u64 a0_2, .int .u64 a0_3, .int .u64 a0_4, .string a0_5], .agg #[.int .u64 t185, .int .u64 t186, .int .u64 t187, .string t188, .string t189], .bool true] (by rfl) rfl rfl (by (try simp only [List.map_toArray, List.map_cons, List.map_nil]); first | done | rfl | (simp only [List.length_drop, List.length_take]; rfl)) ?_
                  with_reducible refine (Hand.TermDown.calls a0_0 a0_1 a0_2 a0_3 a0_4 a0_5 t185 t186 t187 t188 t189 true t190 _ ?gl3 A114.out).mono ?_
                  case gl3 => (first | exact HG.out | exact Hand.Gl.below HG.out (by repeat (first | (with_reducible first | exact HB.out | apply below_alloc | apply pw_below_drewN | apply below_drew1) | exact HB.out)))
                  rintro e w119 ⟨rfl, hb⟩
                  refine ⟨_, rfl, ?_⟩
                  have n0_ := Aside0.mk (blk_below (g := gb166) (o := .cells #[.int .i64 a0_0, .int .i64 a0_1, .int .u64 a0_2, .int .u64 a0_3, .int .u64 a0_4, .string a0_5] 42 (0, 0)) (by (with_reducible repeat (first | refine blk_drewN ?_ _ | refine blk_drew ?_ | refine blk_alloc ?_ _)); exact BK166.out) hb)
                  have n1_ := Aside0.mk (blk_below (g := gb167) (o := .cells #[.int .u64 a1_0, .int .u64 a1_1, .int .u64 a1_2, .string a1_3, .string a1_4] 29 (0, 0)) (by (with_reducible repeat (first | refine blk_drewN ?_ _ | refine blk_drew ?_ | refine blk_alloc ?_ _)); exact BK167.out) hb)
                  have n2_ := Aside0.mk (blk_below (g := gb168) (o := .cells #[.int .u64 a2_0, .int .u64 a2_1, .int .u64 a2_2, .string a2_3, .string a2_4] 29 (0, 0)) (by (with_reducible repeat (first | refine blk_drewN ?_ _ | refine blk_drew ?_ | refine blk_alloc ?_ _)); exact BK168.out) hb)
                  have n3_ := Aside0.mk (below_step (by repeat (first | (with_reducible first | exact HB.out | apply below_alloc | apply pw_below_drewN | apply below_drew1 | refine below_set ?_ GE166.out | refine below_set ?_ GE167.out | refine below_set ?_ GE168.out) | exact HB.out)) hb)
                  clear BK166
                  clear BK167
                  clear BK168
                  clear HB
                  have BK166 := n0_
                  have BK167 := n1_
                  have BK168 := n2_
                  have HB := n3_
                  clear n0_ n1_ n2_ n3_
                  (try clear hb)
                  (try clear hb2)
                  (try clear hk)
                  (try clear hi)
                  refine hK.out _ _ ⟨(blk_cell BK166.out 0).trans rfl, (blk_cell BK166.out 1).trans rfl, (blk_cell BK166.out 2).trans rfl, (blk_cell BK166.out 3).trans rfl, (blk_cell BK166.out 4).trans rfl, (blk_cell BK166.out 5).trans rfl, (blk_cell BK168.out 0).trans rfl, (blk_cell BK168.out 1).trans rfl, (blk_cell BK168.out 2).trans rfl, (blk_cell BK168.out 3).trans rfl, (blk_cell BK168.out 4).trans rfl, (blk_cell BK167.out 0).trans rfl, (blk_cell BK167.out 1).trans rfl, (blk_cell BK167.out 2).trans rfl, (blk_cell BK167.out 3).trans rfl, (blk_cell BK167.out 4).trans rfl⟩ (fun hHeld => ?_)
                  clear hK K
                  refine norm_ (a' := ?_) ?_ ?_
                  rotate_left
                  · show Act.put _ (some 59) _ = _
                    simp only [Act.put, List.setIfInBounds_toArray, List.set_cons_zero, List.set_cons_succ, i64_w, i32_w]
                    rfl
                  refine pure_ (i := 17) (N := some 63) (v := ?_) (a' := ?_) #[true, true, true, true, true, true, true, true, true, true, true, true, true, true, true, true, true, true, false, false] rfl rfl (any_of HT_.out (by kernel_rfl)) (fun _ _ _ h => h) (Or.inl ⟨by rfl, ?_⟩) ?_ ?_
                  rotate_left
                  · intro w'
                    go_simp
                    with_reducible rfl
                  rotate_left
                  · simp only [Act.put, List.setIfInBounds_toArray, List.set_cons_zero, List.set_cons_succ, i64_w, i32_w]
                    rfl
                  refine pure_ (i := 18) (N := some 64) (v := ?_) (a' := ?_) #[true, true, true, true, true, true, true, true, true, true, true, true, true, true, true, true, true, true, true, false] rfl rfl (any_of HT_.out (by kernel_rfl)) (fun _ _ _ h => h) (Or.inl ⟨by rfl, ?_⟩) ?_ ?_
                  rotate_left
                  · intro w'
                    go_simp
                    with_reducible rfl
                  rotate_left
                  · simp only [Act.put, List.setIfInBounds_toArray, List.set_cons_zero, List.set_cons_succ, i64_w, i32_w]
                    rfl
                  refine pure_ (i := 19) (N := some 6) (v := ?_) (a' := ?_) #[true, true, true, true, true, true, true, true, true, true, true, true, true, true, true, true, true, true, true, true] rfl rfl (any_of HT_.out (by kernel_rfl)) (fun _ _ _ h => h) (Or.inl ⟨by rfl, ?_⟩) ?_ ?_
                  rotate_left
                  · intro w'
                    go_simp
                    with_reducible rfl
                  rotate_left
                  · simp only [Act.put, List.setIfInBounds_toArray, List.set_cons_zero, List.set_cons_succ, i64_w, i32_w]
                    rfl
                  refine done_ (done_of HT_.out (by kernel_rfl)) ?_
                  try go_wp2
                  go_ret
                  exact ⟨by first | rfl | (simp [errW_none, errW_some] <;> rfl) | (simp [*, errW_none, errW_some] <;> rfl), by repeat (first | (with_reducible first | exact HB.out | apply below_alloc | apply pw_below_drewN | apply below_drew1 | refine below_set ?_ GE166.out | refine below_set ?_ GE167.out | refine below_set ?_ GE168.out) | exact HB.out)⟩
                · replace c112 := Bool.eq_false_iff.mpr c112
                  subst c112
                  have H1 : (some false) = some r := by rw [if_neg (show ¬ (false = true) by decide)] at H; exact H
                  clear H
                  have H := H1
                  clear H1
                  obtain rfl := Option.some.inj H
                  try go_wp2
                  have n0_ := Aside0.mk (blk_drew BK166.out)
                  have n1_ := Aside0.mk (blk_drew BK167.out)
                  have n2_ := Aside0.mk (blk_drew BK168.out)
                  have n3_ := Aside0.mk (below_drew1 HB.out)
                  clear BK166
                  clear BK167
                  clear BK168
                  clear HB
                  have BK166 := n0_
                  have BK167 := n1_
                  have BK168 := n2_
                  have HB := n3_
                  clear n0_ n1_ n2_ n3_
                  refine start_ (n := 20) (S := fun w' => w'.cell? ⟨gb166, 0, none⟩ = some (.int .i64 a0_0) ∧ w'.cell? ⟨gb166, 1, none⟩ = some (.int .i64 a0_1) ∧ w'.cell? ⟨gb166, 2, none⟩ = some (.int .u64 a0_2) ∧ w'.cell? ⟨gb166, 3, none⟩ = some (.int .u64 a0_3) ∧ w'.cell? ⟨gb166, 4, none⟩ = some (.int .u64 a0_4) ∧ w'.cell? ⟨gb166, 5, none⟩ = some (.string a0_5) ∧ w'.cell? ⟨gb168, 0, none⟩ = some (.int .u64 a2_0) ∧ w'.cell? ⟨gb168, 1, none⟩ = some (.int .u64 a2_1) ∧ w'.cell? ⟨gb168, 2, none⟩ = some (.int .u64 a2_2) ∧ w'.cell? ⟨gb168, 3, none⟩ = some (.string a2_3) ∧ w'.cell? ⟨gb168, 4, none⟩ = some (.string a2_4) ∧ w'.cell? ⟨gb167, 0, none⟩ = some (.int .u64 a1_0) ∧ w'.cell? ⟨gb167, 1, none⟩ = some (.int .u64 a1_1) ∧ w'.cell? ⟨gb167, 2, none⟩ = some (.int .u64 a1_2) ∧ w'.cell? ⟨gb167, 3, none⟩ = some (.string a1_3) ∧ w'.cell? ⟨gb167, 4, none⟩ = some (.string a1_4)) (ds := []) #[false, false, false, false, false, false, false, false, false, false, false, false, false, false, false, false, false, false, false, false] (by kernel_rfl) rfl rfl ⟨(blk_cell BK166.out 0).trans rfl, (blk_cell BK166.out 1).trans rfl, (blk_cell BK166.out 2).trans rfl, (blk_cell BK166.out 3).trans rfl, (blk_cell BK166.out 4).trans rfl, (blk_cell BK166.out 5).trans rfl, (blk_cell BK168.out 0).trans rfl, (blk_cell BK168.out 1).trans rfl, (blk_cell BK168.out 2).trans rfl, (blk_cell BK168.out 3).trans rfl, (blk_cell BK168.out 4).trans rfl, (blk_cell BK167.out 0).trans rfl, (blk_cell BK167.out 1).trans rfl, (blk_cell BK167.out 2).trans rfl, (blk_cell BK167.out 3).trans rfl, (blk_cell BK167.out 4).trans rfl⟩ (fun hHeld => ?_); refine with_tabW laws_FnSemverTermDown.tab5 laws_FnSemverTermDown.bits5 (fun HT_ HW_ => ?_)
                  generalize wc.drew = w120 at BK166 BK167 BK168 HB hHeld ⊢
                  refine take_ (i := 0) (N := some 46) (v := ?_) (a' := ?_) #[true, false, false, false, false, false, false, false, false, false, false, false, false, false, false, false, false, false, false, false] rfl rfl (take_ofW HT_.out HW_.out (by kernel_rfl)) (fun _ _ _ h => h) (Or.inl ⟨by rfl, ?_⟩) hHeld ?_ ?_
                  rotate_left
                  · rintro w' ⟨s0, s1, s2, s3, s4, s5, s6, s7, s8, s9, s10, s11, s12, s13, s14, s15⟩
                    go_simp
                    with_reducible rfl
                  rotate_left
                  · simp only [Act.put, List.setIfInBounds_toArray, List.set_cons_zero, List.set_cons_succ, i64_w, i32_w]
                    rfl
                  refine take_ (i := 1) (N := some 47) (v := ?_) (a' := ?_) #[true, true, false, false, false, false, false, false, false, false, false, false, false, false, false, false, false, false, false, false] rfl rfl (take_ofW HT_.out HW_.out (by kernel_rfl)) (fun _ _ _ h => h) (Or.inl ⟨by rfl, ?_⟩) hHeld ?_ ?_
                  rotate_left
                  · rintro w' ⟨s0, s1, s2, s3, s4, s5, s6, s7, s8, s9, s10, s11, s12, s13, s14, s15⟩
                    go_simp
                    with_reducible rfl
                  rotate_left
                  · simp only [Act.put, List.setIfInBounds_toArray, List.set_cons_zero, List.set_cons_succ, i64_w, i32_w]
                    rfl
                  refine one_ (i := 2) (N := some 48) #[true, true, true, false, false, false, false, false, false, false, false, false, false, false, false, false, false, false, false, false] rfl rfl (one_of HT_.out (by kernel_rfl)) (by decide) (fun K hK => ?_)
                  refine goes_ Tryd.func65 (by kernel_rfl) rfl #[.agg #[.int .i64 a0_0, .int .i64 a0_1, .int .u64 a0_2, .int .u64 a0_3, .int .u64 a0_4, .string a0_5], .agg #[.int .u64 a2_0, .int .u64 a2_1, .int .u64 a2_2, .string a2_3, .string a2_4], .bool true] (by rfl) rfl rfl (by (try simp only [List.map_toArray, List.map_cons, List.map_nil]); first | done | rfl | (simp only [List.length_drop, List.length_take]; rfl)) ?_
                  with_reducible refine (Hand.TermDown.calls a0_0 a0_1 a0_2 a0_3 a0_4 a0_5 a2_0 a2_1 a2_2 a2_3 a2_4 true true _ ?gl4 A109.out).mono ?_
                  case gl4 => (first | exact HG.out | exact Hand.Gl.below HG.out (by repeat (first | (with_reducible first | exact HB.out | apply below_alloc | apply pw_below_drewN | apply below_drew1) | exact HB.out)))
                  rintro e w121 ⟨rfl, hb⟩
                  refine ⟨_, rfl, ?_⟩
                  have n0_ := Aside0.mk (blk_below (g := gb166) (o := .cells #[.int .i64 a0_0, .int .i64 a0_1, .int .u64 a0_2, .int .u64 a0_3, .int .u64 a0_4, .string a0_5] 42 (0, 0)) (by (with_reducible repeat (first | refine blk_drewN ?_ _ | refine blk_drew ?_ | refine blk_alloc ?_ _)); exact BK166.out) hb)
                  have n1_ := Aside0.mk (blk_below (g := gb167) (o := .cells #[.int .u64 a1_0, .int .u64 a1_1, .int .u64 a1_2, .string a1_3, .string a1_4] 29 (0, 0)) (by (with_reducible repeat (first | refine blk_drewN ?_ _ | refine blk_drew ?_ | refine blk_alloc ?_ _)); exact BK167.out) hb)
                  have n2_ := Aside0.mk (blk_below (g := gb168) (o := .cells #[.int .u64 a2_0, .int .u64 a2_1, .int .u64 a2_2, .string a2_3, .string a2_4] 29 (0, 0)) (by (with_reducible repeat (first | refine blk_drewN ?_ _ | refine blk_drew ?_ | refine blk_alloc ?_ _)); exact BK168.out) hb)
                  have n3_ := Aside0.mk (below_step (by repeat (first | (with_reducible first | exact HB.out | apply below_alloc | apply pw_below_drewN | apply below_drew1 | refine below_set ?_ GE166.out | refine below_set ?_ GE167.out | refine below_set ?_ GE168.out) | exact HB.out)) hb)
                  clear BK166
                  clear BK167
                  clear BK168
                  clear HB
                  have BK166 := n0_
                  have BK167 := n1_
                  have BK168 := n2_
                  have HB := n3_
                  clear n0_ n1_ n2_ n3_
                  (try clear hb)
                  (try clear hb2)
                  (try clear hk)
                  (try clear hi)
                  refine hK.out _ _ ⟨(blk_cell BK166.out 0).trans rfl, (blk_cell BK166.out 1).trans rfl, (blk_cell BK166.out 2).trans rfl, (blk_cell BK166.out 3).trans rfl, (blk_cell BK166.out 4).trans rfl, (blk_cell BK166.out 5).trans rfl, (blk_cell BK168.out 0).trans rfl, (blk_cell BK168.out 1).trans rfl, (blk_cell BK168.out 2).trans rfl, (blk_cell BK168.out 3).trans rfl, (blk_cell BK168.out 4).trans rfl, (blk_cell BK167.out 0).trans rfl, (blk_cell BK167.out 1).trans rfl, (blk_cell BK167.out 2).trans rfl, (blk_cell BK167.out 3).trans rfl, (blk_cell BK167.out 4).trans rfl⟩ (fun hHeld => ?_)
                  clear hK K
                  refine norm_ (a' := ?_) ?_ ?_
                  rotate_left
                  · show Act.put _ (some 48) _ = _
                    simp only [Act.put, List.setIfInBounds_toArray, List.set_cons_zero, List.set_cons_succ, i64_w, i32_w]
                    rfl
                  refine pure_ (i := 3) (N := some 49) (v := ?_) (a' := ?_) #[true, true, true, true, false, false, false, false, false, false, false, false, false, false, false, false, false, false, false, false] rfl rfl (any_of HT_.out (by kernel_rfl)) (fun _ _ _ h => h) (Or.inl ⟨by rfl, ?_⟩) ?_ ?_
                  rotate_left
                  · intro w'
                    go_simp
                    with_reducible rfl
                  rotate_left
                  · simp only [Act.put, List.setIfInBounds_toArray, List.set_cons_zero, List.set_cons_succ, i64_w, i32_w]
                    rfl
                  refine pure_ (i := 4) (N := some 50) (v := ?_) (a' := ?_) #[true, true, true, true, true, false, false, false, false, false, false, false, false, false, false, false, false, false, false, false] rfl rfl (any_of HT_.out (by kernel_rfl)) (fun _ _ _ h => h) (Or.inl ⟨by rfl, ?_⟩) ?_ ?_
                  rotate_left
                  · intro w'
                    go_simp
                    with_reducible rfl
                  rotate_left
                  · simp only [Act.put, List.setIfInBounds_toArray, List.set_cons_zero, List.set_cons_succ, i64_w, i32_w]
                    rfl
                  refine take_ (i := 5) (N := some 51) (v := ?_) (a' := ?_) #[true, true, true, true, true, true, false, false, false, false, false, false, false, false, false, false, false, false, false, false] rfl rfl (take_ofW HT_.out HW_.out (by kernel_rfl)) (fun _ _ _ h => h) (Or.inl ⟨by rfl, ?_⟩) hHeld ?_ ?_
                  rotate_left
                  · rintro w' ⟨s0, s1, s2, s3, s4, s5, s6, s7, s8, s9, s10, s11, s12, s13, s14, s15⟩
                    go_simp
                    with_reducible rfl
                  rotate_left
                  · simp only [Act.put, List.setIfInBounds_toArray, List.set_cons_zero, List.set_cons_succ, i64_w, i32_w]
                    rfl
                  refine take_ (i := 6) (N := some 52) (v := ?_) (a' := ?_) #[true, true, true, true, true, true, true, false, false, false, false, false, false, false, false, false, false, false, false, false] rfl rfl (take_ofW HT_.out HW_.out (by kernel_rfl)) (fun _ _ _ h => h) (Or.inl ⟨by rfl, ?_⟩) hHeld ?_ ?_
                  rotate_left
                  · rintro w' ⟨s0, s1, s2, s3, s4, s5, s6, s7, s8, s9, s10, s11, s12, s13, s14, s15⟩
                    go_simp
                    with_reducible rfl
                  rotate_left
                  · simp only [Act.put, List.setIfInBounds_toArray, List.set_cons_zero, List.set_cons_succ, i64_w, i32_w]
                    rfl
                  refine one_ (i := 7) (N := some 53) #[true, true, true, true, true, true, true, true, false, false, false, false, false, false, false, false, false, false, false, false] rfl rfl (one_of HT_.out (by kernel_rfl)) (by decide) (fun K hK => ?_)
                  refine goes_ Tryd.func65 (by kernel_rfl) rfl #[.agg #[.int .i64 a0_0, .int .i64 a0_1, .int .u64 a0_2, .int .u64 a0_3, .int .u64 a0_4, .string a0_5], .agg #[.int .u64 a1_0, .int .u64 a1_1, .int .u64 a1_2, .string a1_3, .string a1_4], .bool true] (by rfl) rfl rfl (by (try simp only [List.map_toArray, List.map_cons, List.map_nil]); first | done | rfl | (simp only [List.length_drop, List.length_take]; rfl)) ?_
                  with_reducible refine (Hand.TermDown.calls a0_0 a0_1 a0_2 a0_3 a0_4 a0_5 a1_0 a1_1 a1_2 a1_3 a1_4 true false _ ?gl5 A111.out).mono ?_
                  case gl5 => (first | exact HG.out | exact Hand.Gl.below HG.out (by repeat (first | (with_reducible first | exact HB.out | apply below_alloc | apply pw_below_drewN | apply below_drew1) | exact HB.out)))
                  rintro e w122 ⟨rfl, hb⟩
                  refine ⟨_, rfl, ?_⟩
                  have n0_ := Aside0.mk (blk_below (g := gb166) (o := .cells #[.int .i64 a0_0, .int .i64 a0_1, .int .u64 a0_2, .int .u64 a0_3, .int .u64 a0_4, .string a0_5] 42 (0, 0)) (by (with_reducible repeat (first | refine blk_drewN ?_ _ | refine blk_drew ?_ | refine blk_alloc ?_ _)); exact BK166.out) hb)
                  have n1_ := Aside0.mk (blk_below (g := gb167) (o := .cells #[.int .u64 a1_0, .int .u64 a1_1, .int .u64 a1_2, .string a1_3, .string a1_4] 29 (0, 0)) (by (with_reducible repeat (first | refine blk_drewN ?_ _ | refine blk_drew ?_ | refine blk_alloc ?_ _)); exact BK167.out) hb)
                  have n2_ := Aside0.mk (blk_below (g := gb168) (o := .cells #[.int .u64 a2_0, .int .u64 a2_1, .int .u64 a2_2, .string a2_3, .string a2_4] 29 (0, 0)) (by (with_reducible repeat (first | refine blk_drewN ?_ _ | refine blk_drew ?_ | refine blk_alloc ?_ _)); exact BK168.out) hb)
                  have n3_ := Aside0.mk (below_step (by repeat (first | (with_reducible first | exact HB.out | apply below_alloc | apply pw_below_drewN | apply below_drew1 | refine below_set ?_ GE166.out | refine below_set ?_ GE167.out | refine below_set ?_ GE168.out) | exact HB.out)) hb)
                  clear BK166
                  clear BK167
                  clear BK168
                  clear HB
                  have BK166 := n0_
                  have BK167 := n1_
                  have BK168 := n2_
                  have HB := n3_
                  clear n0_ n1_ n2_ n3_
                  (try clear hb)
                  (try clear hb2)
                  (try clear hk)
                  (try clear hi)
                  refine hK.out _ _ ⟨(blk_cell BK166.out 0).trans rfl, (blk_cell BK166.out 1).trans rfl, (blk_cell BK166.out 2).trans rfl, (blk_cell BK166.out 3).trans rfl, (blk_cell BK166.out 4).trans rfl, (blk_cell BK166.out 5).trans rfl, (blk_cell BK168.out 0).trans rfl, (blk_cell BK168.out 1).trans rfl, (blk_cell BK168.out 2).trans rfl, (blk_cell BK168.out 3).trans rfl, (blk_cell BK168.out 4).trans rfl, (blk_cell BK167.out 0).trans rfl, (blk_cell BK167.out 1).trans rfl, (blk_cell BK167.out 2).trans rfl, (blk_cell BK167.out 3).trans rfl, (blk_cell BK167.out 4).trans rfl⟩ (fun hHeld => ?_)
                  clear hK K
                  refine norm_ (a' := ?_) ?_ ?_
                  rotate_left
                  · show Act.put _ (some 53) _ = _
                    simp only [Act.put, List.setIfInBounds_toArray, List.set_cons_zero, List.set_cons_succ, i64_w, i32_w]
                    rfl
                  refine pure_ (i := 8) (N := some 54) (v := ?_) (a' := ?_) #[true, true, true, true, true, true, true, true, true, false, false, false, false, false, false, false, false, false, false, false] rfl rfl (any_of HT_.out (by kernel_rfl)) (fun _ _ _ h => h) (Or.inl ⟨by rfl, ?_⟩) ?_ ?_
                  rotate_left
                  · intro w'
                    go_simp
                    with_reducible rfl
                  rotate_left
                  · simp only [Act.put, List.setIfInBounds_toArray, List.set_cons_zero, List.set_cons_succ, i64_w, i32_w]
                    rfl
                  refine pure_ (i := 9) (N := some 55) (v := ?_) (a' := ?_) #[true, true, true, true, true, true, true, true, true, true, false, false, false, false, false, false, false, false, false, false] rfl rfl (any_of HT_.out (by kernel_rfl)) (fun _ _ _ h => h) (Or.inl ⟨by rfl, ?_⟩) ?_ ?_
                  rotate_left
                  · intro w'
                    go_simp
                    with_reducible rfl
                  rotate_left
                  · simp only [Act.put, List.setIfInBounds_toArray, List.set_cons_zero, List.set_cons_succ, i64_w, i32_w]
                    rfl
                  refine pure_ (i := 10) (N := some 56) (v := undef) (a' := ?_) #[true, true, true, true, true, true, true, true, true, true, true, false, false, false, false, false, false, false, false, false] rfl rfl (any_of HT_.out (by kernel_rfl)) (fun _ _ _ h => h) (Or.inr ⟨by rfl, rfl⟩) ?_ ?_
                  rotate_left
                  · simp only [Act.put, List.setIfInBounds_toArray, List.set_cons_zero, List.set_cons_succ, i64_w, i32_w]
                    rfl
                  refine pure_ (i := 11) (N := some 57) (v := undef) (a' := ?_) #[true, true, true, true, true, true, true, true, true, true, true, true, false, false, false, false, false, false, false, false] rfl rfl (any_of HT_.out (by kernel_rfl)) (fun _ _ _ h => h) (Or.inr ⟨by rfl, rfl⟩) ?_ ?_
                  rotate_left
                  · simp only [Act.put, List.setIfInBounds_toArray, List.set_cons_zero, List.set_cons_succ, i64_w, i32_w]
                    rfl
                  refine pure_ (i := 12) (N := some 58) (v := undef) (a' := ?_) #[true, true, true, true, true, true, true, true, true, true, true, true, true, false, false, false, false, false, false, false] rfl rfl (any_of HT_.out (by kernel_rfl)) (fun _ _ _ h => h) (Or.inr ⟨by rfl, rfl⟩) ?_ ?_
                  rotate_left
                  · simp only [Act.put, List.setIfInBounds_toArray, List.set_cons_zero, List.set_cons_succ, i64_w, i32_w]
                    rfl
                  refine pure_ (i := 13) (N := some 59) (v := undef) (a' := ?_) #[true, true, true, true, true, true, true, true, true, true, true, true, true, true, false, false, false, false, false, false] rfl rfl (any_of HT_.out (by kernel_rfl)) (fun _ _ _ h => h) (Or.inr ⟨by rfl, rfl⟩) ?_ ?_
                  rotate_left
                  · simp only [Act.put, List.setIfInBounds_toArray, List.set_cons_zero, List.set_cons_succ, i64_w, i32_w]
                    rfl
                  refine pure_ (i := 14) (N := some 60) (v := undef) (a' := ?_) #[true, true, true, true, true, true, true, true, true, true, true, true, true, true, true, false, false, false, false, false] rfl rfl (any_of HT_.out (by kernel_rfl)) (fun _ _ _ h => h) (Or.inr ⟨by rfl, rfl⟩) ?_ ?_
                  rotate_left
                  · simp only [Act.put, List.setIfInBounds_toArray, List.set_cons_zero, List.set_cons_succ, i64_w, i32_w]
                    rfl
                  refine pure_ (i := 15) (N := some 61) (v := undef) (a' := ?_) #[true, true, true, true, true, true, true, true, true, true, true, true, true, true, true, true, false, false, false, false] rfl rfl (any_of HT_.out (by kernel_rfl)) (fun _ _ _ h => h) (Or.inr ⟨by rfl, rfl⟩) ?_ ?_
                  rotate_left
                  · simp only [Act.put, List.setIfInBounds_toArray, List.set_cons_zero, List.set_cons_succ, i64_w, i32_w]
                    rfl
                  refine pure_ (i := 16) (N := some 62) (v := undef) (a' := ?_) #[true, true, true, true, true, true, true, true, true, true, true, true, true, true, true, true, true, false, false, false] rfl rfl (any_of HT_.out (by kernel_rfl)) (fun _ _ _ h => h) (Or.inr ⟨by rfl, rfl⟩) ?_ ?_
                  rotate_left
                  · simp only [Act.put, List.setIfInBounds_toArray, List.set_cons_zero, List.set_cons_succ, i64_w, i32_w]
                    rfl
                  refine pure_ (i := 17) (N := some 63) (v := undef) (a' := ?_) #[true, true, true, true, true, true, true, true, true, true, true, true, true, true, true, true, true, true, false, false] rfl rfl (any_of HT_.out (by kernel_rfl)) (fun _ _ _ h => h) (Or.inr ⟨by rfl, rfl⟩) ?_ ?_
                  rotate_left
                  · simp only [Act.put, List.setIfInBounds_toArray, List.set_cons_zero, List.set_cons_succ, i64_w, i32_w]
                    rfl
                  refine pure_ (i := 18) (N := some 64) (v := ?_) (a' := ?_) #[true, true, true, true, true, true, true, true, true, true, true, true, true, true, true, true, true, true, true, false] rfl rfl (any_of HT_.out (by kernel_rfl)) (fun _ _ _ h => h) (Or.inl ⟨by rfl, ?_⟩) ?_ ?_
                  rotate_left
                  · intro w'
                    go_simp
                    with_reducible rfl
                  rotate_left
                  · simp only [Act.put, List.setIfInBounds_toArray, List.set_cons_zero, List.set_cons_succ, i64_w, i32_w]
                    rfl
                  refine pure_ (i := 19) (N := some 6) (v := ?_) (a' := ?_) #[true, true, true, true, true, true, true, true, true, true, true, true, true, true, true, true, true, true, true, true] rfl rfl (any_of HT_.out (by kernel_rfl)) (fun _ _ _ h => h) (Or.inl ⟨by rfl, ?_⟩) ?_ ?_
                  rotate_left
                  · intro w'
                    go_simp
                    with_reducible rfl
                  rotate_left
                  · simp only [Act.put, List.setIfInBounds_toArray, List.set_cons_zero, List.set_cons_succ, i64_w, i32_w]
                    rfl
                  refine done_ (done_of HT_.out (by kernel_rfl)) ?_
                  try go_wp2
                  go_ret
                  exact ⟨by first | rfl | (simp [errW_none, errW_some] <;> rfl) | (simp [*, errW_none, errW_some] <;> rfl), by repeat (first | (with_reducible first | exact HB.out | apply below_alloc | apply pw_below_drewN | apply below_drew1 | refine below_set ?_ GE166.out | refine below_set ?_ GE167.out | refine below_set ?_ GE168.out) | exact HB.out)⟩
              · replace c110 := Bool.eq_false_iff.mpr c110
                subst c110
                have H1 : ((spec_Least.f a0_0 a0_1 a0_2 a0_3 a0_4 a0_5).bind fun bt191 => ((Hand.TermDown.f a0_0 a0_1 a0_2 a0_3 a0_4 a0_5 bt191.1 bt191.2.1 bt191.2.2.1 bt191.2.2.2.1 bt191.2.2.2.2 true).bind fun t196 => (some (t196 == (a0_0 == 5))))) = some r := by rw [if_neg (show ¬ (false = true) by decide)] at H; exact H
                clear H
                have H := H1
                clear H1
                replace H := Option.bind_eq_some_iff.mp H
                obtain ⟨⟨t191, t192, t193, t194, t195⟩, A1230, H⟩ := H
                replace H : ((Hand.TermDown.f a0_0 a0_1 a0_2 a0_3 a0_4 a0_5 t191 t192 t193 t194 t195 true).bind fun t196 => (some (t196 == (a0_0 == 5)))) = some r := H
                have A123 := Aside0.mk A1230
                clear A1230
                replace H := Option.bind_eq_some_iff.mp H
                obtain ⟨t196, A1240, H⟩ := H
                replace H : (some (t196 == (a0_0 == 5))) = some r := H
                have A124 := Aside0.mk A1240
                clear A1240
                obtain rfl := Option.some.inj H
                try go_wp2
                have n0_ := Aside0.mk (blk_drew BK166.out)
                have n1_ := Aside0.mk (blk_drew BK167.out)
                have n2_ := Aside0.mk (blk_drew BK168.out)
                have n3_ := Aside0.mk (below_drew1 HB.out)
                clear BK166
                clear BK167
                clear BK168
                clear HB
                have BK166 := n0_
                have BK167 := n1_
                have BK168 := n2_
                have HB := n3_
                clear n0_ n1_ n2_ n3_
                refine start_ (n := 20) (S := fun w' => w'.cell? ⟨gb166, 0, none⟩ = some (.int .i64 a0_0) ∧ w'.cell? ⟨gb166, 1, none⟩ = some (.int .i64 a0_1) ∧ w'.cell? ⟨gb166, 2, none⟩ = some (.int .u64 a0_2) ∧ w'.cell? ⟨gb166, 3, none⟩ = some (.int .u64 a0_3) ∧ w'.cell? ⟨gb166, 4, none⟩ = some (.int .u64 a0_4) ∧ w'.cell? ⟨gb166, 5, none⟩ = some (.string a0_5) ∧ w'.cell? ⟨gb168, 0, none⟩ = some (.int .u64 a2_0) ∧ w'.cell? ⟨gb168, 1, none⟩ = some (.int .u64 a2_1) ∧ w'.cell? ⟨gb168, 2, none⟩ = some (.int .u64 a2_2) ∧ w'.cell? ⟨gb168, 3, none⟩ = some (.string a2_3) ∧ w'.cell? ⟨gb168, 4, none⟩ = some (.string a2_4)) (ds := []) #[false, false, false, false, false, false, false, false, false, false, false, false, false, false, false, false, false, false, false, false] (by kernel_rfl) rfl rfl ⟨(blk_cell BK166.out 0).trans rfl, (blk_cell BK166.out 1).trans rfl, (blk_cell BK166.out 2).trans rfl, (blk_cell BK166.out 3).trans rfl, (blk_cell BK166.out 4).trans rfl, (blk_cell BK166.out 5).trans rfl, (blk_cell BK168.out 0).trans rfl, (blk_cell BK168.out 1).trans rfl, (blk_cell BK168.out 2).trans rfl, (blk_cell BK168.out 3).trans rfl, (blk_cell BK168.out 4).trans rfl⟩ (fun hHeld => ?_); refine with_tabW laws_FnSemverTermDown.tab5 laws_FnSemverTermDown.bits5 (fun HT_ HW_ => ?_)
                generalize wc.drew = w125 at BK166 BK167 BK168 HB hHeld ⊢
                refine take_ (i := 0) (N := some 46) (v := ?_) (a' := ?_) #[true, false, false, false, false, false, false, false, false, false, false, false, false, false, false, false, false, false, false, false] rfl rfl (take_ofW HT_.out HW_.out (by kernel_rfl)) (fun _ _ _ h => h) (Or.inl ⟨by rfl, ?_⟩) hHeld ?_ ?_
                rotate_left
                · rintro w' ⟨s0, s1, s2, s3, s4, s5, s6, s7, s8, s9, s10⟩
                  go_simp
                  with_reducible rfl
                rotate_left
                · simp only [Act.put, List.setIfInBounds_toArray, List.set_cons_zero, List.set_cons_succ, i64_w, i32_w]
                  rfl
                refine take_ (i := 1) (N := some 47) (v := ?_) (a' := ?_) #[true, true, false, false, false, false, false, false, false, false, false, false, false, false, false, false, false, false, false, false] rfl rfl (take_ofW HT_.out HW_.out (by kernel_rfl)) (fun _ _ _ h => h) (Or.inl ⟨by rfl, ?_⟩) hHeld ?_ ?_
                rotate_left
                · rintro w' ⟨s0, s1, s2, s3, s4, s5, s6, s7, s8, s9, s10⟩
                  go_simp
                  with_reducible rfl
                rotate_left
                · simp only [Act.put, List.setIfInBounds_toArray, List.set_cons_zero, List.set_cons_succ, i64_w, i32_w]
                  rfl
                refine one_ (i := 2) (N := some 48) #[true, true, true, false, false, false, false, false, false, false, false, false, false, false, false, false, false, false, false, false] rfl rfl (one_of HT_.out (by kernel_rfl)) (by decide) (fun K hK => ?_)
                refine goes_ Tryd.func65 (by kernel_rfl) rfl #[.agg #[.int .i64 a0_0, .int .i64 a0_1, .int .u64 a0_2, .int .u64 a0_3, .int .u64 a0_4, .string a0_5], .agg #[.int .u64 a2_0, .int .u64 a2_1, .int .u64 a2_2, .string a2_3, .string a2_4], .bool true] (by rfl) rfl rfl (by (try simp only [List.map_toArray, List.map_cons, List.map_nil]); first | done | rfl | (simp only [List.length_drop, List.length_take]; rfl)) ?_
                with_reducible refine (Hand.TermDown.calls a0_0 a0_1 a0_2 a0_3 a0_4 a0_5 a2_0 a2_1 a2_2 a2_3 a2_4 true false _ ?gl6 A109.out).mono ?_
                case gl6 => (first | exact HG.out | exact Hand.Gl.below HG.out (by repeat (first | (with_reducible first | exact HB.out | apply below_alloc | apply pw_below_drewN | apply below_drew1) | exact HB.out)))
                rintro e w126 ⟨rfl, hb⟩
                refine ⟨_, rfl, ?_⟩
                have n0_ := Aside0.mk (blk_below (g := gb166) (o := .cells #[.int .i64 a0_0, .int .i64 a0_1, .int .u64 a0_2, .int .u64 a0_3, .int .u64 a0_4, .string a0_5] 42 (0, 0)) (by (with_reducible repeat (first | refine blk_drewN ?_ _ | refine blk_drew ?_ | refine blk_alloc ?_ _)); exact BK166.out) hb)
                have n1_ := Aside0.mk (blk_below (g := gb167) (o := .cells #[.int .u64 a1_0, .int .u64 a1_1, .int .u64 a1_2, .string a1_3, .string a1_4] 29 (0, 0)) (by (with_reducible repeat (first | refine blk_drewN ?_ _ | refine blk_drew ?_ | refine blk_alloc ?_ _)); exact BK167.out) hb)
                have n2_ := Aside0.mk (blk_below (g := gb168) (o := .cells #[.int .u64 a2_0, .int .u64 a2_1, .int .u64 a2_2, .string a2_3, .string a2_4] 29 (0, 0)) (by (with_reducible repeat (first | refine blk_drewN ?_ _ | refine blk_drew ?_ | refine blk_alloc ?_ _)); exact BK168.out) hb)
                have n3_ := Aside0.mk (below_step (by repeat (first | (with_reducible first | exact HB.out | apply below_alloc | apply pw_below_drewN | apply below_drew1 | refine below_set ?_ GE166.out | refine below_set ?_ GE167.out | refine below_set ?_ GE168.out) | exact HB.out)) hb)
                clear BK166
                clear BK167
                clear BK168
                clear HB
                have BK166 := n0_
                have BK167 := n1_
                have BK168 := n2_
                have HB := n3_
                clear n0_ n1_ n2_ n3_
                (try clear hb)
                (try clear hb2)
                (try clear hk)
                (try clear hi)
                refine hK.out _ _ ⟨(blk_cell BK166.out 0).trans rfl, (blk_cell BK166.out 1).trans rfl, (blk_cell BK166.out 2).trans rfl, (blk_cell BK166.out 3).trans rfl, (blk_cell BK166.out 4).trans rfl, (blk_cell BK166.out 5).trans rfl, (blk_cell BK168.out 0).trans rfl, (blk_cell BK168.out 1).trans rfl, (blk_cell BK168.out 2).trans rfl, (blk_cell BK168.out 3).trans rfl, (blk_cell BK168.out 4).trans rfl⟩ (fun hHeld => ?_)
                clear hK K
                refine norm_ (a' := ?_) ?_ ?_
                rotate_left
                · show Act.put _ (some 48) _ = _
                  simp only [Act.put, List.setIfInBounds_toArray, List.set_cons_zero, List.set_cons_succ, i64_w, i32_w]
                  rfl
                refine pure_ (i := 3) (N := some 49) (v := ?_) (a' := ?_) #[true, true, true, true, false, false, false, false, false, false, false, false, false, false, false, false, false, false, false, false] rfl rfl (any_of HT_.out (by kernel_rfl)) (fun _ _ _ h => h) (Or.inl ⟨by rfl, ?_⟩) ?_ ?_
                rotate_left
                · intro w'
                  go_simp
                  with_reducible rfl
                rotate_left
                · simp only [Act.put, List.setIfInBounds_toArray, List.set_cons_zero, List.set_cons_succ, i64_w, i32_w]
                  rfl
                refine pure_ (i := 4) (N := some 50) (v := ?_) (a' := ?_) #[true, true, true, true, true, false, false, false, false, false, false, false, false, false, false, false, false, false, false, false] rfl rfl (any_of HT_.out (by kernel_rfl)) (fun _ _ _ h => h) (Or.inl ⟨by rfl, ?_⟩) ?_ ?_
                rotate_left
                · intro w'
                  go_simp
                  with_reducible rfl
                rotate_left
                · simp only [Act.put, List.setIfInBounds_toArray, List.set_cons_zero, List.set_cons_succ, i64_w, i32_w]
                  rfl
                refine pure_ (i := 5) (N := some 51) (v := undef) (a' := ?_) #[true, true, true, true, true, true, false, false, false, false, false, false, false, false, false, false, false, false, false, false] rfl rfl (any_of HT_.out (by kernel_rfl)) (fun _ _ _ h => h) (Or.inr ⟨by rfl, rfl⟩) ?_ ?_
                rotate_left
                · simp only [Act.put, List.setIfInBounds_toArray, List.set_cons_zero, List.set_cons_succ, i64_w, i32_w]
                  rfl
                refine pure_ (i := 6) (N := some 52) (v := undef) (a' := ?_) #[true, true, true, true, true, true, true, false, false, false, false, false, false, false, false, false, false, false, false, false] rfl rfl (any_of HT_.out (by kernel_rfl)) (fun _ _ _ h => h) (Or.inr ⟨by rfl, rfl⟩) ?_ ?_
                rotate_left
                · simp only [Act.put, List.setIfInBounds_toArray, List.set_cons_zero, List.set_cons_succ, i64_w, i32_w]
                  rfl
                refine pure_ (i := 7) (N := some 53) (v := undef) (a' := ?_) #[true, true, true, true, true, true, true, true, false, false, false, false, false, false, false, false, false, false, false, false] rfl rfl (any_of HT_.out (by kernel_rfl)) (fun _ _ _ h => h) (Or.inr ⟨by rfl, rfl⟩) ?_ ?_
                rotate_left
                · simp only [Act.put, List.setIfInBounds_toArray, List.set_cons_zero, List.set_cons_succ, i64_w, i32_w]
                  rfl
                refine pure_ (i := 8) (N := some 54) (v := ?_) (a' := ?_) #[true, true, true, true, true, true, true, true, true, false, false, false, false, false, false, false, false, false, false, false] rfl rfl (any_of HT_.out (by kernel_rfl)) (fun _ _ _ h => h) (Or.inl ⟨by rfl, ?_⟩) ?_ ?_
                rotate_left
                · intro w'
                  go_simp
                  with_reducible rfl
                rotate_left
                · simp only [Act.put, List.setIfInBounds_toArray, List.set_cons_zero, List.set_cons_succ, i64_w, i32_w]
                  rfl
                refine pure_ (i := 9) (N := some 55) (v := ?_) (a' := ?_) #[true, true, true, true, true, true, true, true, true, true, false, false, false, false, false, false, false, false, false, false] rfl rfl (any_of HT_.out (by kernel_rfl)) (fun _ _ _ h => h) (Or.inl ⟨by rfl, ?_⟩) ?_ ?_
                rotate_left
                · intro w'
                  go_simp
                  with_reducible rfl
                rotate_left
                · simp only [Act.put, List.setIfInBounds_toArray, List.set_cons_zero, List.set_cons_succ, i64_w, i32_w]
                  rfl
                refine pure_ (i := 14) (N := some 60) (v := ?_) (a' := ?_) #[true, true, true, true, true, true, true, true, true, true, false, false, false, false, true, false, false, false, false, false] rfl rfl (any_of HT_.out (by kernel_rfl)) (fun _ _ _ h => h) (Or.inl ⟨by rfl, ?_⟩) ?_ ?_
                rotate_left
                · intro w'
                  go_simp
                  with_reducible rfl
                rotate_left
                · simp only [Act.put, List.setIfInBounds_toArray, List.set_cons_zero, List.set_cons_succ, i64_w, i32_w]
                  rfl
                refine take_ (i := 10) (N := some 56) (v := ?_) (a' := ?_) #[true, true, true, true, true, true, true, true, true, true, true, false, false, false, true, false, false, false, false, false] rfl rfl (take_ofW HT_.out HW_.out (by kernel_rfl)) (fun _ _ _ h => h) (Or.inl ⟨by rfl, ?_⟩) hHeld ?_ ?_
                rotate_left
                · rintro w' ⟨s0, s1, s2, s3, s4, s5, s6, s7, s8, s9, s10⟩
                  go_simp
                  with_reducible rfl
                rotate_left
                · simp only [Act.put, List.setIfInBounds_toArray, List.set_cons_zero, List.set_cons_succ, i64_w, i32_w]
                  rfl
                refine take_ (i := 11) (N := some 57) (v := ?_) (a' := ?_) #[true, true, true, true, true, true, true, true, true, true, true, true, false, false, true, false, false, false, false, false] rfl rfl (take_ofW HT_.out HW_.out (by kernel_rfl)) (fun _ _ _ h => h) (Or.inl ⟨by rfl, ?_⟩) hHeld ?_ ?_
                rotate_left
                · rintro w' ⟨s0, s1, s2, s3, s4, s5, s6, s7, s8, s9, s10⟩
                  go_simp
                  with_reducible rfl
                rotate_left
                · simp only [Act.put, List.setIfInBounds_toArray, List.set_cons_zero, List.set_cons_succ, i64_w, i32_w]
                  rfl
                refine take_ (i := 15) (N := some 61) (v := ?_) (a' := ?_) #[true, true, true, true, true, true, true, true, true, true, true, true, false, false, true, true, false, false, false, false] rfl rfl (take_ofW HT_.out HW_.out (by kernel_rfl)) (fun _ _ _ h => h) (Or.inl ⟨by rfl, ?_⟩) hHeld ?_ ?_
                rotate_left
                · rintro w' ⟨s0, s1, s2, s3, s4, s5, s6, s7, s8, s9, s10⟩
                  go_simp
                  with_reducible rfl
                rotate_left
                · simp only [Act.put, List.setIfInBounds_toArray, List.set_cons_zero, List.set_cons_succ, i64_w, i32_w]
                  rfl
                refine pure_ (i := 16) (N := some 62) (v := ?_) (a' := ?_) #[true, true, true, true, true, true, true, true, true, true, true, true, false, false, true, true, true, false, false, false] rfl rfl (any_of HT_.out (by kernel_rfl)) (fun _ _ _ h => h) (Or.inl ⟨by rfl, ?_⟩) ?_ ?_
                rotate_left
                · intro w'
                  go_simp
                  with_reducible rfl
                rotate_left
                · simp only [Act.put, List.setIfInBounds_toArray, List.set_cons_zero, List.set_cons_succ, i64_w, i32_w]
                  rfl
                refine one_ (i := 12) (N := some 58) #[true, true, true, true, true, true, true, true, true, true, true, true, true, false, true, true, true, false, false, false] rfl rfl (one_of HT_.out (by kernel_rfl)) (by decide) (fun K hK => ?_)
                refine goes_ Tryd.func66 (by kernel_rfl) rfl #[.agg #[.int .i64 a0_0, .int .i64 a0_1, .int .u64 a0_2, .int .u64 a0_3, .int .u64 a0_4, .string a0_5]] (by rfl) rfl rfl (by (try simp only [List.map_toArray, List.map_cons, List.map_nil]); first | done | rfl | (simp only [List.length_drop, List.length_take]; rfl)) ?_
                with_reducible refine (spec_Least.calls a0_0 a0_1 a0_2 a0_3 a0_4 a0_5 t191 t192 t193 t194 t195 _ A123.out).mono ?_
                rintro e w127 ⟨rfl, hb⟩
                refine ⟨_, rfl, ?_⟩
                have n0_ := Aside0.mk (blk_below (g := gb166) (o := .cells #[.int .i64 a0_0, .int .i64 a0_1, .int .u64 a0_2, .int .u64 a0_3, .int .u64 a0_4, .string a0_5] 42 (0, 0)) (by (with_reducible repeat (first | refine blk_drewN ?_ _ | refine blk_drew ?_ | refine blk_alloc ?_ _)); exact BK166.out) hb)
                have n1_ := Aside0.mk (blk_below (g := gb167) (o := .cells #[.int .u64 a1_0, .int .u64 a1_1, .int .u64 a1_2, .string a1_3, .string a1_4] 29 (0, 0)) (by (with_reducible repeat (first | refine blk_drewN ?_ _ | refine blk_drew ?_ | refine blk_alloc ?_ _)); exact BK167.out) hb)
                have n2_ := Aside0.mk (blk_below (g := gb168) (o := .cells #[.int .u64 a2_0, .int .u64 a2_1, .int .u64 a2_2, .string a2_3, .string a2_4] 29 (0, 0)) (by (with_reducible repeat (first | refine blk_drewN ?_ _ | refine blk_drew ?_ | refine blk_alloc ?_ _)); exact BK168.out) hb)
                have n3_ := Aside0.mk (below_step (by repeat (first | (with_reducible first | exact HB.out | apply below_alloc | apply pw_below_drewN | apply below_drew1 | refine below_set ?_ GE166.out | refine below_set ?_ GE167.out | refine below_set ?_ GE168.out) | exact HB.out)) hb)
                clear BK166
                clear BK167
                clear BK168
                clear HB
                have BK166 := n0_
                have BK167 := n1_
                have BK168 := n2_
                have HB := n3_
                clear n0_ n1_ n2_ n3_
                (try clear hb)
                (try clear hb2)
                (try clear hk)
                (try clear hi)
                refine hK.out _ _ ⟨(blk_cell BK166.out 0).trans rfl, (blk_cell BK166.out 1).trans rfl, (blk_cell BK166.out 2).trans rfl, (blk_cell BK166.out 3).trans rfl, (blk_cell BK166.out 4).trans rfl, (blk_cell BK166.out 5).trans rfl, (blk_cell BK168.out 0).trans rfl, (blk_cell BK168.out 1).trans rfl, (blk_cell BK168.out 2).trans rfl, (blk_cell BK168.out 3).trans rfl, (blk_cell BK168.out 4).trans rfl⟩ (fun hHeld => ?_)
                clear hK K
                refine norm_ (a' := ?_) ?_ ?_
                rotate_left
                · show Act.put _ (some 58) _ = _
                  simp only [Act.put, List.setIfInBounds_toArray, List.set_cons_zero, List.set_cons_succ, i64_w, i32_w]
                  rfl
                refine one_ (i := 13) (N := some 59) #[true, true, true, true, true, true, true, true, true, true, true, true, true, true, true, true, true, false, false, false] rfl rfl (one_of HT_.out (by kernel_rfl)) (by decide) (fun K hK => ?_)
                refine goes_ Tryd.func65 (by kernel_rfl) rfl #[.agg #[.int .i64 a0_0, .int .i64 a0_1, .int .u64 a0_2, .int .u64 a0_3, .int .u64 a0_4, .string a0_5], .agg #[.int .u64 t191, .int .u64 t192, .int .u64 t193, .string t194, .string t195], .bool true] (by rfl) rfl rfl (by (try simp only [List.map_toArray, List.map_cons, List.map_nil]); first | done | rfl | (simp only [List.length_drop, List.length_take]; rfl)) ?_
                with_reducible refine (Hand.TermDown.calls a0_0 a0_1 a0_2 a0_3 a0_4 a0_5 t191 t192 t193 t194 t195 true t196 _ ?gl7 A124.out).mono ?_
                case gl7 => (first | exact HG.out | exact Hand.Gl.below HG.out (by repeat (first | (with_reducible first | exact HB.out | apply below_alloc | apply pw_below_drewN | apply below_drew1) | exact HB.out)))
                rintro e w128 ⟨rfl, hb⟩
                refine ⟨_, rfl, ?_⟩
                have n0_ := Aside0.mk (blk_below (g := gb166) (o := .cells #[.int .i64 a0_0, .int .i64 a0_1, .int .u64 a0_2, .int .u64 a0_3, .int .u64 a0_4, .string a0_5] 42 (0, 0)) (by (with_reducible repeat (first | refine blk_drewN ?_ _ | refine blk_drew ?_ | refine blk_alloc ?_ _)); exact BK166.out) hb)
                have n1_ := Aside0.mk (blk_below (g := gb167) (o := .cells #[.int .u64 a1_0, .int .u64 a1_1, .int .u64 a1_2, .string a1_3, .string a1_4] 29 (0, 0)) (by (with_reducible repeat (first | refine blk_drewN ?_ _ | refine blk_drew ?_ | refine blk_alloc ?_ _)); exact BK167.out) hb)
                have n2_ := Aside0.mk (blk_below (g := gb168) (o := .cells #[.int .u64 a2_0, .int .u64 a2_1, .int .u64 a2_2, .string a2_3, .string a2_4] 29 (0, 0)) (by (with_reducible repeat (first | refine blk_drewN ?_ _ | refine blk_drew ?_ | refine blk_alloc ?_ _)); exact BK168.out) hb)
                have n3_ := Aside0.mk (below_step (by repeat (first | (with_reducible first | exact HB.out | apply below_alloc | apply pw_below_drewN | apply below_drew1 | refine below_set ?_ GE166.out | refine below_set ?_ GE167.out | refine below_set ?_ GE168.out) | exact HB.out)) hb)
                clear BK166
                clear BK167
                clear BK168
                clear HB
                have BK166 := n0_
                have BK167 := n1_
                have BK168 := n2_
                have HB := n3_
                clear n0_ n1_ n2_ n3_
                (try clear hb)
                (try clear hb2)
                (try clear hk)
                (try clear hi)
                refine hK.out _ _ ⟨(blk_cell BK166.out 0).trans rfl, (blk_cell BK166.out 1).trans rfl, (blk_cell BK166.out 2).trans rfl, (blk_cell BK166.out 3).trans rfl, (blk_cell BK166.out 4).trans rfl, (blk_cell BK166.out 5).trans rfl, (blk_cell BK168.out 0).trans rfl, (blk_cell BK168.out 1).trans rfl, (blk_cell BK168.out 2).trans rfl, (blk_cell BK168.out 3).trans rfl, (blk_cell BK168.out 4).trans rfl⟩ (fun hHeld => ?_)
                clear hK K
                refine norm_ (a' := ?_) ?_ ?_
                rotate_left
                · show Act.put _ (some 59) _ = _
                  simp only [Act.put, List.setIfInBounds_toArray, List.set_cons_zero, List.set_cons_succ, i64_w, i32_w]
                  rfl
                refine pure_ (i := 17) (N := some 63) (v := ?_) (a' := ?_) #[true, true, true, true, true, true, true, true, true, true, true, true, true, true, true, true, true, true, false, false] rfl rfl (any_of HT_.out (by kernel_rfl)) (fun _ _ _ h => h) (Or.inl ⟨by rfl, ?_⟩) ?_ ?_
                rotate_left
                · intro w'
                  go_simp
                  with_reducible rfl
                rotate_left
                · simp only [Act.put, List.setIfInBounds_toArray, List.set_cons_zero, List.set_cons_succ, i64_w, i32_w]
                  rfl
                refine pure_ (i := 18) (N := some 64) (v := ?_) (a' := ?_) #[true, true, true, true, true, true, true, true, true, true, true, true, true, true, true, true, true, true, true, false] rfl rfl (any_of HT_.out (by kernel_rfl)) (fun _ _ _ h => h) (Or.inl ⟨by rfl, ?_⟩) ?_ ?_
                rotate_left
                · intro w'
                  go_simp
                  with_reducible rfl
                rotate_left
                · simp only [Act.put, List.setIfInBounds_toArray, List.set_cons_zero, List.set_cons_succ, i64_w, i32_w]
                  rfl
                refine pure_ (i := 19) (N := some 6) (v := ?_) (a' := ?_) #[true, true, true, true, true, true, true, true, true, true, true, true, true, true, true, true, true, true, true, true] rfl rfl (any_of HT_.out (by kernel_rfl)) (fun _ _ _ h => h) (Or.inl ⟨by rfl, ?_⟩) ?_ ?_
                rotate_left
                · intro w'
                  go_simp
                  with_reducible rfl
                rotate_left
                · simp only [Act.put, List.setIfInBounds_toArray, List.set_cons_zero, List.set_cons_succ, i64_w, i32_w]
                  rfl
                refine done_ (done_of HT_.out (by kernel_rfl)) ?_
                try go_wp2
                go_ret
                exact ⟨by first | rfl | (simp [errW_none, errW_some] <;> rfl) | (simp [*, errW_none, errW_some] <;> rfl), by repeat (first | (with_reducible first | exact HB.out | apply below_alloc | apply pw_below_drewN | apply below_drew1 | refine below_set ?_ GE166.out | refine below_set ?_ GE167.out | refine below_set ?_ GE168.out) | exact HB.out)⟩

end Go.Proofs.YtalpehfjjidfhaaDoor.MG
