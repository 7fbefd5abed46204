-- Written by a program of this session (wip/tools/myprint.py over the kit's print).
import Derived.Test.YtalpehfjjidfhaaDoorMFx0
import Derived.Test.YtalpehfjjidfhaaDoorMFx1
import Derived.Test.YtalpehfjjidfhaaDoorMFx2
import Derived.Test.YtalpehfjjidfhaaDoorMFx3
namespace Go.Proofs.YtalpehfjjidfhaaDoor.MF
open Go.RowKit Go.Proofs.YtalpehfjjidfhaaDoorW.PrintWords Go.Proofs.YtalpehfjjidfhaaDoorW.PrintLast Go.Proofs.YtalpehfjjidfhaaDoorW.PrintMore Go.Proofs.YtalpehfjjidfhaaDoor
attribute [local go_sem] max2_int min2_int max_two min_two max_three min_three max_four min_four   -- for this text's walks alone
set_option linter.unusedVariables false
set_option linter.unusedSimpArgs false

/-! ### laws_snAs: function 91 -/
def laws_snAs.f (a0_0 : Int) (a0_1 : Int) (a0_2 : Int) (a0_3 : Int) (a0_4 : Int) (a0_5 : ByteArray) (a1 : Int) : Option (Int × Int × Int × Int × Int × ByteArray) := some (a1, a0_1, a0_2, a0_3, a0_4, a0_5)
set_option maxHeartbeats 8000000 in
set_option maxRecDepth 100000 in
theorem laws_snAs.calls (a0_0 : Int) (a0_1 : Int) (a0_2 : Int) (a0_3 : Int) (a0_4 : Int) (a0_5 : ByteArray) (a1 : Int) (r1 : Int) (r2 : Int) (r3 : Int) (r4 : Int) (r5 : Int) (r6 : ByteArray) (w : World) (h : laws_snAs.f a0_0 a0_1 a0_2 a0_3 a0_4 a0_5 a1 = some (r1, r2, r3, r4, r5, r6)) :
    Calls Tryd.prog 91 #[.agg #[.int .i64 a0_0, .int .i64 a0_1, .int .u64 a0_2, .int .u64 a0_3, .int .u64 a0_4, .string a0_5], .int .i64 a1] w fun e w' => e = .returned (.agg #[.int .i64 r1, .int .i64 r2, .int .u64 r3, .int .u64 r4, .int .u64 r5, .string r6]) ∧ Below w.heap.size w w' := by
  have hu42 := Tryd.underlying42
  have HB := Aside0.mk (Below.refl w.heap.size w)
  have H : (some (a1, a0_1, a0_2, a0_3, a0_4, a0_5)) = some (r1, r2, r3, r4, r5, r6) := h
  clear h
  simp only [Option.some.injEq, Prod.mk.injEq] at H
  obtain ⟨rfl, rfl, rfl, rfl, rfl, rfl⟩ := H
  go_enter Tryd.func91, Tryd.ntmps91
  go_wp2_with (first | ((with_reducible refine gate_dst (N := 2) rfl ?_); refine box_event ?hg (N := 2) ?hd (cs := #[.int .i64 a0_0, .int .i64 a0_1, .int .u64 a0_2, .int .u64 a0_3, .int .u64 a0_4, .string a0_5]) (t := 42) ?hr ?_; (case hd => rfl); (case hg => rfl); (case hr => first | (go_simp; done) | (go_simp; rfl)); intro gb144 hg w3 hbox hb; have n0_ := Aside0.mk (below_step (by repeat (first | (with_reducible first | exact HB.out | apply below_alloc | apply pw_below_drewN | apply below_drew1) | exact HB.out)) hb); have n1_ := Aside0.mk (hbox); have n2_ := Aside0.mk ((by rw [hg]; exact (below_size (by repeat (first | (with_reducible first | exact HB.out | apply below_alloc | apply pw_below_drewN | apply below_drew1) | exact HB.out))) : w.heap.size ≤ gb144)); have n3_ := Aside0.mk ((by rw [hg]; exact (below_size (by repeat (first | (with_reducible first | exact HB.out | apply below_alloc | apply pw_below_drewN | apply below_drew1) | exact HB.out))) : w.heap.size ≤ gb144)); clear HB; have HB := n0_; have BK144 := n1_; have GW144 := n2_; have GE144 := n3_; clear n0_ n1_ n2_ n3_; clear hb hbox hg) | ((with_reducible refine gate_dst (N := 4) rfl ?_); refine box_event ?hg (N := 4) ?hd (cs := #[.int .i64 0, .int .i64 0, .int .u64 0, .int .u64 0, .int .u64 0, .string (⟨#[]⟩ : ByteArray)]) (t := 42) ?hr ?_; (case hd => rfl); (case hg => rfl); (case hr => first | (go_simp; done) | (go_simp; rfl)); intro gb145 hg w4 hbox hb; have n0_ := Aside0.mk (blk_below (g := gb144) (o := .cells #[.int .i64 a0_0, .int .i64 a0_1, .int .u64 a0_2, .int .u64 a0_3, .int .u64 a0_4, .string a0_5] 42 (0, 0)) (by (with_reducible repeat (first | refine blk_drewN ?_ _ | refine blk_drew ?_ | refine blk_alloc ?_ _)); exact BK144.out) hb); have n1_ := Aside0.mk (below_step (by repeat (first | (with_reducible first | exact HB.out | apply below_alloc | apply pw_below_drewN | apply below_drew1 | refine below_set ?_ GE144.out) | exact HB.out)) hb); have n2_ := Aside0.mk (hbox); have n3_ := Aside0.mk ((by rw [hg]; exact (below_size (by repeat (first | (with_reducible first | exact HB.out | apply below_alloc | apply pw_below_drewN | apply below_drew1 | refine below_set ?_ GE144.out) | exact HB.out))) : w.heap.size ≤ gb145)); have n4_ := Aside0.mk ((by rw [hg]; exact (below_size (by repeat (first | (with_reducible first | exact HB.out | apply below_alloc | apply pw_below_drewN | apply below_drew1 | refine below_set ?_ GE144.out) | exact HB.out))) : w.heap.size ≤ gb145)); have n5_ := Aside0.mk ((by rw [hg]; exact Nat.ne_of_lt (blk_lt (g := gb144) (o := .cells #[.int .i64 a0_0, .int .i64 a0_1, .int .u64 a0_2, .int .u64 a0_3, .int .u64 a0_4, .string a0_5] 42 (0, 0)) (by (with_reducible repeat (first | refine blk_drewN ?_ _ | refine blk_drew ?_ | refine blk_alloc ?_ _)); exact BK144.out)) : gb144 ≠ gb145)); have n6_ := Aside0.mk ((by rw [hg]; exact Nat.ne_of_gt (blk_lt (g := gb144) (o := .cells #[.int .i64 a0_0, .int .i64 a0_1, .int .u64 a0_2, .int .u64 a0_3, .int .u64 a0_4, .string a0_5] 42 (0, 0)) (by (with_reducible repeat (first | refine blk_drewN ?_ _ | refine blk_drew ?_ | refine blk_alloc ?_ _)); exact BK144.out)) : gb145 ≠ gb144)); clear BK144; clear HB; have BK144 := n0_; have HB := n1_; have BK145 := n2_; have GW145 := n3_; have GE145 := n4_; have NB144_145 := n5_; have NB145_144 := n6_; clear n0_ n1_ n2_ n3_ n4_ n5_ n6_; clear hb hbox hg; have hnb5 := NB144_145.out; have hnc5 := NB145_144.out; have hcz6_0 : w4.cell? ⟨gb144, 0, none⟩ = some (.int .i64 a0_0) := (blk_cell BK144.out 0).trans rfl; have hcz6_1 : w4.cell? ⟨gb144, 1, none⟩ = some (.int .i64 a0_1) := (blk_cell BK144.out 1).trans rfl; have hcz6_2 : w4.cell? ⟨gb144, 2, none⟩ = some (.int .u64 a0_2) := (blk_cell BK144.out 2).trans rfl; have hcz6_3 : w4.cell? ⟨gb144, 3, none⟩ = some (.int .u64 a0_3) := (blk_cell BK144.out 3).trans rfl; have hcz6_4 : w4.cell? ⟨gb144, 4, none⟩ = some (.int .u64 a0_4) := (blk_cell BK144.out 4).trans rfl; have hcz6_5 : w4.cell? ⟨gb144, 5, none⟩ = some (.string a0_5) := (blk_cell BK144.out 5).trans rfl; have hfz6_0 := blk_frozen BK144.out 0; have hfz6_1 := blk_frozen BK144.out 1; have hfz6_2 := blk_frozen BK144.out 2; have hfz6_3 := blk_frozen BK144.out 3; have hfz6_4 := blk_frozen BK144.out 4; have hfz6_5 := blk_frozen BK144.out 5; have hcz7_0 : w4.cell? ⟨gb145, 0, none⟩ = some (.int .i64 0) := (blk_cell BK145.out 0).trans rfl; have hcz7_1 : w4.cell? ⟨gb145, 1, none⟩ = some (.int .i64 0) := (blk_cell BK145.out 1).trans rfl; have hcz7_2 : w4.cell? ⟨gb145, 2, none⟩ = some (.int .u64 0) := (blk_cell BK145.out 2).trans rfl; have hcz7_3 : w4.cell? ⟨gb145, 3, none⟩ = some (.int .u64 0) := (blk_cell BK145.out 3).trans rfl; have hcz7_4 : w4.cell? ⟨gb145, 4, none⟩ = some (.int .u64 0) := (blk_cell BK145.out 4).trans rfl; have hcz7_5 : w4.cell? ⟨gb145, 5, none⟩ = some (.string (⟨#[]⟩ : ByteArray)) := (blk_cell BK145.out 5).trans rfl; have hfz7_0 := blk_frozen BK145.out 0; have hfz7_1 := blk_frozen BK145.out 1; have hfz7_2 := blk_frozen BK145.out 2; have hfz7_3 := blk_frozen BK145.out 3; have hfz7_4 := blk_frozen BK145.out 4; have hfz7_5 := blk_frozen BK145.out 5))
  refine bodyPost_ret (results_cell_row rfl _ _ gb145 42 #[.int .i64 a1, .int .i64 a0_1, .int .u64 a0_2, .int .u64 a0_3, .int .u64 a0_4, .string a0_5] (0, 0) _ rfl (by (with_reducible repeat (first | refine blk_drewN ?_ _ | refine blk_drew ?_ | refine blk_alloc ?_ _)); refine blk_put (cs := #[.int .i64 a1, .int .i64 a0_1, .int .u64 a0_2, .int .u64 a0_3, .int .u64 a0_4, .string (⟨#[]⟩ : ByteArray)]) ?_ 5 _ rfl; (with_reducible repeat (first | refine blk_drewN ?_ _ | refine blk_drew ?_ | refine blk_alloc ?_ _)); refine blk_put (cs := #[.int .i64 a1, .int .i64 a0_1, .int .u64 a0_2, .int .u64 a0_3, .int .u64 0, .string (⟨#[]⟩ : ByteArray)]) ?_ 4 _ rfl; (with_reducible repeat (first | refine blk_drewN ?_ _ | refine blk_drew ?_ | refine blk_alloc ?_ _)); refine blk_put (cs := #[.int .i64 a1, .int .i64 a0_1, .int .u64 a0_2, .int .u64 0, .int .u64 0, .string (⟨#[]⟩ : ByteArray)]) ?_ 3 _ rfl; (with_reducible repeat (first | refine blk_drewN ?_ _ | refine blk_drew ?_ | refine blk_alloc ?_ _)); refine blk_put (cs := #[.int .i64 a1, .int .i64 a0_1, .int .u64 0, .int .u64 0, .int .u64 0, .string (⟨#[]⟩ : ByteArray)]) ?_ 2 _ rfl; (with_reducible repeat (first | refine blk_drewN ?_ _ | refine blk_drew ?_ | refine blk_alloc ?_ _)); refine blk_put (cs := #[.int .i64 a1, .int .i64 0, .int .u64 0, .int .u64 0, .int .u64 0, .string (⟨#[]⟩ : ByteArray)]) ?_ 1 _ rfl; (with_reducible repeat (first | refine blk_drewN ?_ _ | refine blk_drew ?_ | refine blk_alloc ?_ _)); refine blk_put (cs := #[.int .i64 0, .int .i64 0, .int .u64 0, .int .u64 0, .int .u64 0, .string (⟨#[]⟩ : ByteArray)]) ?_ 0 _ rfl; (with_reducible repeat (first | refine blk_drewN ?_ _ | refine blk_drew ?_ | refine blk_alloc ?_ _)); refine blk_far ?_ NB145_144.out _; (with_reducible repeat (first | refine blk_drewN ?_ _ | refine blk_drew ?_ | refine blk_alloc ?_ _)); exact BK145.out) Tryd.underlying42 rfl (by kernel_rfl)) rfl ?_
  exact ⟨by first | rfl | (simp [errW_none, errW_some] <;> rfl) | (simp [*, errW_none, errW_some] <;> rfl), by repeat (first | (with_reducible first | exact HB.out | apply below_alloc | apply pw_below_drewN | apply below_drew1 | refine below_set ?_ GE144.out | refine below_set ?_ GE145.out) | exact HB.out)⟩

/-! ### spec_Spoken: function 92 -/
def spec_Spoken.j0 : Nat → Int → Int → Int → Int → Int → ByteArray → Int → Int → Int → ByteArray → ByteArray → Int → Int → Int → ByteArray → ByteArray → Option (Bool)
  | 0, _, _, _, _, _, _, _, _, _, _, _, _, _, _, _, _ => none
  | k + 1, x147000, x147001, x147002, x147003, x147004, x147005, x148000, x148001, x148002, x148003, x148004, x149000, x149001, x149002, x149003, x149004 => if x147001 = 3 then (some true) else (if x147000 = 5 then ((Hand.CompareNumbers.f x148000 x148001 x148002 x148003 x148004 x149000 x149001 x149002 x149003 x149004 3).bind fun t149 => (some (t149 != 0))) else (if x147000 = 1 then (some (x148003.toList == ([] : List UInt8))) else (some true)))
def spec_Spoken.f (k : Nat) (a0_0 : Int) (a0_1 : Int) (a0_2 : Int) (a0_3 : Int) (a0_4 : Int) (a0_5 : ByteArray) (a1_0 : Int) (a1_1 : Int) (a1_2 : Int) (a1_3 : ByteArray) (a1_4 : ByteArray) : Option (Bool) := if a0_1 = 2 then (spec_Spoken.j0 k a0_0 a0_1 a0_2 a0_3 a0_4 a0_5 a1_0 a1_1 a1_2 a1_3 a1_4 a0_2 (IntKind.u64.wrap (a0_3 + 1)) 0 (⟨#[]⟩ : ByteArray) (⟨#[]⟩ : ByteArray)) else (spec_Spoken.j0 k a0_0 a0_1 a0_2 a0_3 a0_4 a0_5 a1_0 a1_1 a1_2 a1_3 a1_4 (IntKind.u64.wrap (a0_2 + 1)) 0 0 (⟨#[]⟩ : ByteArray) (⟨#[]⟩ : ByteArray))
theorem spec_Spoken.mono_l : ∀ k, (∀ y0 y1 y2 y3 y4 y5 y6 y7 y8 y9 y10 y11 y12 y13 y14 y15, LeO (spec_Spoken.j0 k y0 y1 y2 y3 y4 y5 y6 y7 y8 y9 y10 y11 y12 y13 y14 y15) (spec_Spoken.j0 (k + 1) y0 y1 y2 y3 y4 y5 y6 y7 y8 y9 y10 y11 y12 y13 y14 y15))
  | 0 => fun _ _ _ _ _ _ _ _ _ _ _ _ _ _ _ _ r h => by simp [spec_Spoken.j0] at h
  | k + 1 => by
    have ih0 := spec_Spoken.mono_l k
    · intro y0 y1 y2 y3 y4 y5 y6 y7 y8 y9 y10 y11 y12 y13 y14 y15
      unfold spec_Spoken.j0
      repeat' first
      | (with_reducible exact ih0 _ _ _ _ _ _ _ _ _ _ _ _ _ _ _ _)
      | (with_reducible exact LeO.refl _)
      | (with_reducible exact LeO.none _)
      | (with_reducible refine LeO.ite ?_ ?_)
      | (with_reducible refine LeO.bind ?_ (fun _ => ?_))
      | exact ih0 _ _ _ _ _ _ _ _ _ _ _ _ _ _ _ _
      | exact LeO.none _
      | refine LeO.ite ?_ ?_
      | refine LeO.bind ?_ (fun _ => ?_)
theorem spec_Spoken.mono : ∀ a0 a1 a2 a3 a4 a5 a6 a7 a8 a9 a10 k, LeO (spec_Spoken.f k a0 a1 a2 a3 a4 a5 a6 a7 a8 a9 a10) (spec_Spoken.f (k + 1) a0 a1 a2 a3 a4 a5 a6 a7 a8 a9 a10) := by
  intro a0 a1 a2 a3 a4 a5 a6 a7 a8 a9 a10 k
  have ih0 := spec_Spoken.mono_l k
  unfold spec_Spoken.f
  repeat' first
      | (with_reducible exact ih0 _ _ _ _ _ _ _ _ _ _ _ _ _ _ _ _)
      | (with_reducible exact LeO.refl _)
      | (with_reducible exact LeO.none _)
      | (with_reducible refine LeO.ite ?_ ?_)
      | (with_reducible refine LeO.bind ?_ (fun _ => ?_))
      | exact ih0 _ _ _ _ _ _ _ _ _ _ _ _ _ _ _ _
      | exact LeO.none _
      | refine LeO.ite ?_ ?_
      | refine LeO.bind ?_ (fun _ => ?_)
set_option maxHeartbeats 8000000 in
set_option maxRecDepth 100000 in
theorem spec_Spoken.calls (k : Nat) (a0_0 : Int) (a0_1 : Int) (a0_2 : Int) (a0_3 : Int) (a0_4 : Int) (a0_5 : ByteArray) (a1_0 : Int) (a1_1 : Int) (a1_2 : Int) (a1_3 : ByteArray) (a1_4 : ByteArray) (r : Bool) (w : World) (h : spec_Spoken.f k a0_0 a0_1 a0_2 a0_3 a0_4 a0_5 a1_0 a1_1 a1_2 a1_3 a1_4 = some r) :
    Calls Tryd.prog 92 #[.agg #[.int .i64 a0_0, .int .i64 a0_1, .int .u64 a0_2, .int .u64 a0_3, .int .u64 a0_4, .string a0_5], .agg #[.int .u64 a1_0, .int .u64 a1_1, .int .u64 a1_2, .string a1_3, .string a1_4]] w fun e w' => e = .returned (.bool r) ∧ Below w.heap.size w w' := by
  have hu42 := Tryd.underlying42
  have hu29 := Tryd.underlying29
  have HB := Aside0.mk (Below.refl w.heap.size w)
  have H : (if a0_1 = 2 then (spec_Spoken.j0 k a0_0 a0_1 a0_2 a0_3 a0_4 a0_5 a1_0 a1_1 a1_2 a1_3 a1_4 a0_2 (IntKind.u64.wrap (a0_3 + 1)) 0 (⟨#[]⟩ : ByteArray) (⟨#[]⟩ : ByteArray)) else (spec_Spoken.j0 k a0_0 a0_1 a0_2 a0_3 a0_4 a0_5 a1_0 a1_1 a1_2 a1_3 a1_4 (IntKind.u64.wrap (a0_2 + 1)) 0 0 (⟨#[]⟩ : ByteArray) (⟨#[]⟩ : ByteArray))) = some r := h
  clear h
  have HC3 := Aside0.mk H
  clear H
  go_enter Tryd.func92, Tryd.ntmps92
  go_upto_if 12 with (first | ((with_reducible refine gate_dst (N := 2) rfl ?_); refine box_event ?hg (N := 2) ?hd (cs := #[.int .i64 a0_0, .int .i64 a0_1, .int .u64 a0_2, .int .u64 a0_3, .int .u64 a0_4, .string a0_5]) (t := 42) ?hr ?_; (case hd => rfl); (case hg => rfl); (case hr => first | (go_simp; done) | (go_simp; rfl)); intro gb146 hg w4 hbox hb; have n0_ := Aside0.mk (below_step (by repeat (first | (with_reducible first | exact HB.out | apply below_alloc | apply pw_below_drewN | apply below_drew1) | exact HB.out)) hb); have n1_ := Aside0.mk (hbox); have n2_ := Aside0.mk ((by rw [hg]; exact (below_size (by repeat (first | (with_reducible first | exact HB.out | apply below_alloc | apply pw_below_drewN | apply below_drew1) | exact HB.out))) : w.heap.size ≤ gb146)); have n3_ := Aside0.mk ((by rw [hg]; exact (below_size (by repeat (first | (with_reducible first | exact HB.out | apply below_alloc | apply pw_below_drewN | apply below_drew1) | exact HB.out))) : w.heap.size ≤ gb146)); clear HB; have HB := n0_; have BK146 := n1_; have GW146 := n2_; have GE146 := n3_; clear n0_ n1_ n2_ n3_; clear hb hbox hg) | ((with_reducible refine gate_dst (N := 3) rfl ?_); refine box_event ?hg (N := 3) ?hd (cs := #[.int .u64 a1_0, .int .u64 a1_1, .int .u64 a1_2, .string a1_3, .string a1_4]) (t := 29) ?hr ?_; (case hd => rfl); (case hg => rfl); (case hr => first | (go_simp; done) | (go_simp; rfl)); intro gb147 hg w5 hbox hb; have n0_ := Aside0.mk (blk_below (g := gb146) (o := .cells #[.int .i64 a0_0, .int .i64 a0_1, .int .u64 a0_2, .int .u64 a0_3, .int .u64 a0_4, .string a0_5] 42 (0, 0)) (by (with_reducible repeat (first | refine blk_drewN ?_ _ | refine blk_drew ?_ | refine blk_alloc ?_ _)); exact BK146.out) hb); have n1_ := Aside0.mk (below_step (by repeat (first | (with_reducible first | exact HB.out | apply below_alloc | apply pw_below_drewN | apply below_drew1 | refine below_set ?_ GE146.out) | exact HB.out)) hb); have n2_ := Aside0.mk (hbox); have n3_ := Aside0.mk ((by rw [hg]; exact (below_size (by repeat (first | (with_reducible first | exact HB.out | apply below_alloc | apply pw_below_drewN | apply below_drew1 | refine below_set ?_ GE146.out) | exact HB.out))) : w.heap.size ≤ gb147)); have n4_ := Aside0.mk ((by rw [hg]; exact (below_size (by repeat (first | (with_reducible first | exact HB.out | apply below_alloc | apply pw_below_drewN | apply below_drew1 | refine below_set ?_ GE146.out) | exact HB.out))) : w.heap.size ≤ gb147)); have n5_ := Aside0.mk ((by rw [hg]; exact Nat.ne_of_lt (blk_lt (g := gb146) (o := .cells #[.int .i64 a0_0, .int .i64 a0_1, .int .u64 a0_2, .int .u64 a0_3, .int .u64 a0_4, .string a0_5] 42 (0, 0)) (by (with_reducible repeat (first | refine blk_drewN ?_ _ | refine blk_drew ?_ | refine blk_alloc ?_ _)); exact BK146.out)) : gb146 ≠ gb147)); have n6_ := Aside0.mk ((by rw [hg]; exact Nat.ne_of_gt (blk_lt (g := gb146) (o := .cells #[.int .i64 a0_0, .int .i64 a0_1, .int .u64 a0_2, .int .u64 a0_3, .int .u64 a0_4, .string a0_5] 42 (0, 0)) (by (with_reducible repeat (first | refine blk_drewN ?_ _ | refine blk_drew ?_ | refine blk_alloc ?_ _)); exact BK146.out)) : gb147 ≠ gb146)); clear BK146; clear HB; have BK146 := n0_; have HB := n1_; have BK147 := n2_; have GW147 := n3_; have GE147 := n4_; have NB146_147 := n5_; have NB147_146 := n6_; clear n0_ n1_ n2_ n3_ n4_ n5_ n6_; clear hb hbox hg; have hnb6 := NB146_147.out; have hnc6 := NB147_146.out; have hcz7_0 : w5.cell? ⟨gb146, 0, none⟩ = some (.int .i64 a0_0) := (blk_cell BK146.out 0).trans rfl; have hcz7_1 : w5.cell? ⟨gb146, 1, none⟩ = some (.int .i64 a0_1) := (blk_cell BK146.out 1).trans rfl; have hcz7_2 : w5.cell? ⟨gb146, 2, none⟩ = some (.int .u64 a0_2) := (blk_cell BK146.out 2).trans rfl; have hcz7_3 : w5.cell? ⟨gb146, 3, none⟩ = some (.int .u64 a0_3) := (blk_cell BK146.out 3).trans rfl; have hcz7_4 : w5.cell? ⟨gb146, 4, none⟩ = some (.int .u64 a0_4) := (blk_cell BK146.out 4).trans rfl; have hcz7_5 : w5.cell? ⟨gb146, 5, none⟩ = some (.string a0_5) := (blk_cell BK146.out 5).trans rfl; have hfz7_0 := blk_frozen BK146.out 0; have hfz7_1 := blk_frozen BK146.out 1; have hfz7_2 := blk_frozen BK146.out 2; have hfz7_3 := blk_frozen BK146.out 3; have hfz7_4 := blk_frozen BK146.out 4; have hfz7_5 := blk_frozen BK146.out 5) | ((with_reducible refine gate_dst (N := 5) rfl ?_); refine box_event ?hg (N := 5) ?hd (cs := #[.int .u64 0, .int .u64 0, .int .u64 0, .string (⟨#[]⟩ : ByteArray), .string (⟨#[]⟩ : ByteArray)]) (t := 29) ?hr ?_; (case hd => rfl); (case hg => rfl); (case hr => first | (go_simp; done) | (go_simp; rfl)); intro gb148 hg w8 hbox hb; have n0_ := Aside0.mk (blk_below (g := gb146) (o := .cells #[.int .i64 a0_0, .int .i64 a0_1, .int .u64 a0_2, .int .u64 a0_3, .int .u64 a0_4, .string a0_5] 42 (0, 0)) (by (with_reducible repeat (first | refine blk_drewN ?_ _ | refine blk_drew ?_ | refine blk_alloc ?_ _)); exact BK146.out) hb); have n1_ := Aside0.mk (blk_below (g := gb147) (o := .cells #[.int .u64 a1_0, .int .u64 a1_1, .int .u64 a1_2, .string a1_3, .string a1_4] 29 (0, 0)) (by (with_reducible repeat (first | refine blk_drewN ?_ _ | refine blk_drew ?_ | refine blk_alloc ?_ _)); exact BK147.out) hb); have n2_ := Aside0.mk (below_step (by repeat (first | (with_reducible first | exact HB.out | apply below_alloc | apply pw_below_drewN | apply below_drew1 | refine below_set ?_ GE146.out | refine below_set ?_ GE147.out) | exact HB.out)) hb); have n3_ := Aside0.mk (hbox); have n4_ := Aside0.mk ((by rw [hg]; exact (below_size (by repeat (first | (with_reducible first | exact HB.out | apply below_alloc | apply pw_below_drewN | apply below_drew1 | refine below_set ?_ GE146.out | refine below_set ?_ GE147.out) | exact HB.out))) : w.heap.size ≤ gb148)); have n5_ := Aside0.mk ((by rw [hg]; exact (below_size (by repeat (first | (with_reducible first | exact HB.out | apply below_alloc | apply pw_below_drewN | apply below_drew1 | refine below_set ?_ GE146.out | refine below_set ?_ GE147.out) | exact HB.out))) : w.heap.size ≤ gb148)); have n6_ := Aside0.mk ((by rw [hg]; exact Nat.ne_of_lt (blk_lt (g := gb146) (o := .cells #[.int .i64 a0_0, .int .i64 a0_1, .int .u64 a0_2, .int .u64 a0_3, .int .u64 a0_4, .string a0_5] 42 (0, 0)) (by (with_reducible repeat (first | refine blk_drewN ?_ _ | refine blk_drew ?_ | refine blk_alloc ?_ _)); exact BK146.out)) : gb146 ≠ gb148)); have n7_ := Aside0.mk ((by rw [hg]; exact Nat.ne_of_gt (blk_lt (g := gb146) (o := .cells #[.int .i64 a0_0, .int .i64 a0_1, .int .u64 a0_2, .int .u64 a0_3, .int .u64 a0_4, .string a0_5] 42 (0, 0)) (by (with_reducible repeat (first | refine blk_drewN ?_ _ | refine blk_drew ?_ | refine blk_alloc ?_ _)); exact BK146.out)) : gb148 ≠ gb146)); have n8_ := Aside0.mk ((by rw [hg]; exact Nat.ne_of_lt (blk_lt (g := gb147) (o := .cells #[.int .u64 a1_0, .int .u64 a1_1, .int .u64 a1_2, .string a1_3, .string a1_4] 29 (0, 0)) (by (with_reducible repeat (first | refine blk_drewN ?_ _ | refine blk_drew ?_ | refine blk_alloc ?_ _)); exact BK147.out)) : gb147 ≠ gb148)); have n9_ := Aside0.mk ((by rw [hg]; exact Nat.ne_of_gt (blk_lt (g := gb147) (o := .cells #[.int .u64 a1_0, .int .u64 a1_1, .int .u64 a1_2, .string a1_3, .string a1_4] 29 (0, 0)) (by (with_reducible repeat (first | refine blk_drewN ?_ _ | refine blk_drew ?_ | refine blk_alloc ?_ _)); exact BK147.out)) : gb148 ≠ gb147)); clear BK146; clear BK147; clear HB; have BK146 := n0_; have BK147 := n1_; have HB := n2_; have BK148 := n3_; have GW148 := n4_; have GE148 := n5_; have NB146_148 := n6_; have NB148_146 := n7_; have NB147_148 := n8_; have NB148_147 := n9_; clear n0_ n1_ n2_ n3_ n4_ n5_ n6_ n7_ n8_ n9_; clear hb hbox hg; have hnb9 := NB148_146.out; have hnc9 := NB146_148.out; have hnb10 := NB148_147.out; have hnc10 := NB147_148.out; have hcz11_0 : w8.cell? ⟨gb148, 0, none⟩ = some (.int .u64 0) := (blk_cell BK148.out 0).trans rfl; have hcz11_1 : w8.cell? ⟨gb148, 1, none⟩ = some (.int .u64 0) := (blk_cell BK148.out 1).trans rfl; have hcz11_2 : w8.cell? ⟨gb148, 2, none⟩ = some (.int .u64 0) := (blk_cell BK148.out 2).trans rfl; have hcz11_3 : w8.cell? ⟨gb148, 3, none⟩ = some (.string (⟨#[]⟩ : ByteArray)) := (blk_cell BK148.out 3).trans rfl; have hcz11_4 : w8.cell? ⟨gb148, 4, none⟩ = some (.string (⟨#[]⟩ : ByteArray)) := (blk_cell BK148.out 4).trans rfl; have hfz11_0 := blk_frozen BK148.out 0; have hfz11_1 := blk_frozen BK148.out 1; have hfz11_2 := blk_frozen BK148.out 2; have hfz11_3 := blk_frozen BK148.out 3; have hfz11_4 := blk_frozen BK148.out 4; have hcz12_0 : w8.cell? ⟨gb146, 0, none⟩ = some (.int .i64 a0_0) := (blk_cell BK146.out 0).trans rfl; have hcz12_1 : w8.cell? ⟨gb146, 1, none⟩ = some (.int .i64 a0_1) := (blk_cell BK146.out 1).trans rfl; have hcz12_2 : w8.cell? ⟨gb146, 2, none⟩ = some (.int .u64 a0_2) := (blk_cell BK146.out 2).trans rfl; have hcz12_3 : w8.cell? ⟨gb146, 3, none⟩ = some (.int .u64 a0_3) := (blk_cell BK146.out 3).trans rfl; have hcz12_4 : w8.cell? ⟨gb146, 4, none⟩ = some (.int .u64 a0_4) := (blk_cell BK146.out 4).trans rfl; have hcz12_5 : w8.cell? ⟨gb146, 5, none⟩ = some (.string a0_5) := (blk_cell BK146.out 5).trans rfl; have hfz12_0 := blk_frozen BK146.out 0; have hfz12_1 := blk_frozen BK146.out 1; have hfz12_2 := blk_frozen BK146.out 2; have hfz12_3 := blk_frozen BK146.out 3; have hfz12_4 := blk_frozen BK146.out 4; have hfz12_5 := blk_frozen BK146.out 5))
  (try simp only [Act.put, List.setIfInBounds_toArray, List.set_cons_zero, List.set_cons_succ])
  go_cut [] (fun wc => ∃ (kq : Nat) (x149000_2 : Int) (x149001_2 : Int) (x149002_2 : Int) (x149003_2 : ByteArray) (x149004_2 : ByteArray), Aside0 (spec_Spoken.j0 kq a0_0 a0_1 a0_2 a0_3 a0_4 a0_5 a1_0 a1_1 a1_2 a1_3 a1_4 x149000_2 x149001_2 x149002_2 x149003_2 x149004_2 = some r) ∧ Aside0 (kq ≤ k) ∧ Aside0 (wc.heap[gb146]? = some (.cells #[.int .i64 a0_0, .int .i64 a0_1, .int .u64 a0_2, .int .u64 a0_3, .int .u64 a0_4, .string a0_5] 42 (0, 0))) ∧ Aside0 (wc.heap[gb147]? = some (.cells #[.int .u64 a1_0, .int .u64 a1_1, .int .u64 a1_2, .string a1_3, .string a1_4] 29 (0, 0))) ∧ Aside0 (wc.heap[gb148]? = some (.cells #[.int .u64 x149000_2, .int .u64 x149001_2, .int .u64 x149002_2, .string x149003_2, .string x149004_2] 29 (0, 0))) ∧ Aside0 (Below w.heap.size w wc))
  case first =>
    have H := HC3.out
    clear HC3
    by_cases c13 : a0_1 = 2
    · rw [if_pos c13] at H
      have c13b0 : (a0_1 == 2) = true := beq_iff_eq.mpr c13
      have c13b1 : (a0_1 != 2) = false := bne_eq_false_iff_eq.mpr c13
      clear c13
      (first | rw [c13b0] | (simp only [i64_w, i32_w]; rw [c13b0]) | skip)
      have H' := Aside0.mk H
      clear H
      have hnb14 := NB146_147.out
      have hnc14 := NB147_146.out
      have hnb15 := NB146_148.out
      have hnc15 := NB148_146.out
      have hcz16_0 : w8.cell? ⟨gb146, 0, none⟩ = some (.int .i64 a0_0) := (blk_cell BK146.out 0).trans rfl
      have hcz16_1 : w8.cell? ⟨gb146, 1, none⟩ = some (.int .i64 a0_1) := (blk_cell BK146.out 1).trans rfl
      have hcz16_2 : w8.cell? ⟨gb146, 2, none⟩ = some (.int .u64 a0_2) := (blk_cell BK146.out 2).trans rfl
      have hcz16_3 : w8.cell? ⟨gb146, 3, none⟩ = some (.int .u64 a0_3) := (blk_cell BK146.out 3).trans rfl
      have hcz16_4 : w8.cell? ⟨gb146, 4, none⟩ = some (.int .u64 a0_4) := (blk_cell BK146.out 4).trans rfl
      have hcz16_5 : w8.cell? ⟨gb146, 5, none⟩ = some (.string a0_5) := (blk_cell BK146.out 5).trans rfl
      have hfz16_0 := blk_frozen BK146.out 0
      have hfz16_1 := blk_frozen BK146.out 1
      have hfz16_2 := blk_frozen BK146.out 2
      have hfz16_3 := blk_frozen BK146.out 3
      have hfz16_4 := blk_frozen BK146.out 4
      have hfz16_5 := blk_frozen BK146.out 5
      have hnb17 := NB148_147.out
      have hnc17 := NB147_148.out
      have hcz18_0 : w8.cell? ⟨gb148, 0, none⟩ = some (.int .u64 0) := (blk_cell BK148.out 0).trans rfl
      have hcz18_1 : w8.cell? ⟨gb148, 1, none⟩ = some (.int .u64 0) := (blk_cell BK148.out 1).trans rfl
      have hcz18_2 : w8.cell? ⟨gb148, 2, none⟩ = some (.int .u64 0) := (blk_cell BK148.out 2).trans rfl
      have hcz18_3 : w8.cell? ⟨gb148, 3, none⟩ = some (.string (⟨#[]⟩ : ByteArray)) := (blk_cell BK148.out 3).trans rfl
      have hcz18_4 : w8.cell? ⟨gb148, 4, none⟩ = some (.string (⟨#[]⟩ : ByteArray)) := (blk_cell BK148.out 4).trans rfl
      have hfz18_0 := blk_frozen BK148.out 0
      have hfz18_1 := blk_frozen BK148.out 1
      have hfz18_2 := blk_frozen BK148.out 2
      have hfz18_3 := blk_frozen BK148.out 3
      have hfz18_4 := blk_frozen BK148.out 4
      go_wp2
      go_meet
      case rel => exact ⟨_, (a0_2), (IntKind.u64.wrap (a0_3 + 1)), (0), ((⟨#[]⟩ : ByteArray)), ((⟨#[]⟩ : ByteArray)), H', ⟨by first | omega | exact Nat.le_refl _⟩, ⟨by (with_reducible repeat (first | refine blk_drewN ?_ _ | refine blk_drew ?_ | refine blk_alloc ?_ _)); refine blk_far ?_ NB146_148.out _; (with_reducible repeat (first | refine blk_drewN ?_ _ | refine blk_drew ?_ | refine blk_alloc ?_ _)); refine blk_far ?_ NB146_148.out _; (with_reducible repeat (first | refine blk_drewN ?_ _ | refine blk_drew ?_ | refine blk_alloc ?_ _)); refine blk_far ?_ NB146_148.out _; (with_reducible repeat (first | refine blk_drewN ?_ _ | refine blk_drew ?_ | refine blk_alloc ?_ _)); refine blk_far ?_ NB146_148.out _; (with_reducible repeat (first | refine blk_drewN ?_ _ | refine blk_drew ?_ | refine blk_alloc ?_ _)); refine blk_far ?_ NB146_148.out _; (with_reducible repeat (first | refine blk_drewN ?_ _ | refine blk_drew ?_ | refine blk_alloc ?_ _)); refine blk_far ?_ NB146_148.out _; (with_reducible repeat (first | refine blk_drewN ?_ _ | refine blk_drew ?_ | refine blk_alloc ?_ _)); refine blk_far ?_ NB146_148.out _; (with_reducible repeat (first | refine blk_drewN ?_ _ | refine blk_drew ?_ | refine blk_alloc ?_ _)); refine blk_far ?_ NB146_148.out _; (with_reducible repeat (first | refine blk_drewN ?_ _ | refine blk_drew ?_ | refine blk_alloc ?_ _)); refine blk_far ?_ NB146_148.out _; (with_reducible repeat (first | refine blk_drewN ?_ _ | refine blk_drew ?_ | refine blk_alloc ?_ _)); refine blk_far ?_ NB146_148.out _; (with_reducible repeat (first | refine blk_drewN ?_ _ | refine blk_drew ?_ | refine blk_alloc ?_ _)); exact BK146.out⟩, ⟨by (with_reducible repeat (first | refine blk_drewN ?_ _ | refine blk_drew ?_ | refine blk_alloc ?_ _)); refine blk_far ?_ NB147_148.out _; (with_reducible repeat (first | refine blk_drewN ?_ _ | refine blk_drew ?_ | refine blk_alloc ?_ _)); refine blk_far ?_ NB147_148.out _; (with_reducible repeat (first | refine blk_drewN ?_ _ | refine blk_drew ?_ | refine blk_alloc ?_ _)); refine blk_far ?_ NB147_148.out _; (with_reducible repeat (first | refine blk_drewN ?_ _ | refine blk_drew ?_ | refine blk_alloc ?_ _)); refine blk_far ?_ NB147_148.out _; (with_reducible repeat (first | refine blk_drewN ?_ _ | refine blk_drew ?_ | refine blk_alloc ?_ _)); refine blk_far ?_ NB147_148.out _; (with_reducible repeat (first | refine blk_drewN ?_ _ | refine blk_drew ?_ | refine blk_alloc ?_ _)); refine blk_far ?_ NB147_148.out _; (with_reducible repeat (first | refine blk_drewN ?_ _ | refine blk_drew ?_ | refine blk_alloc ?_ _)); refine blk_far ?_ NB147_148.out _; (with_reducible repeat (first | refine blk_drewN ?_ _ | refine blk_drew ?_ | refine blk_alloc ?_ _)); refine blk_far ?_ NB147_148.out _; (with_reducible repeat (first | refine blk_drewN ?_ _ | refine blk_drew ?_ | refine blk_alloc ?_ _)); refine blk_far ?_ NB147_148.out _; (with_reducible repeat (first | refine blk_drewN ?_ _ | refine blk_drew ?_ | refine blk_alloc ?_ _)); refine blk_far ?_ NB147_148.out _; (with_reducible repeat (first | refine blk_drewN ?_ _ | refine blk_drew ?_ | refine blk_alloc ?_ _)); exact BK147.out⟩, ⟨by (with_reducible repeat (first | refine blk_drewN ?_ _ | refine blk_drew ?_ | refine blk_alloc ?_ _)); refine blk_put (cs := #[.int .u64 a0_2, .int .u64 (IntKind.u64.wrap (a0_3 + 1)), .int .u64 0, .string (⟨#[]⟩ : ByteArray), .string (⟨#[]⟩ : ByteArray)]) ?_ 4 _ rfl; (with_reducible repeat (first | refine blk_drewN ?_ _ | refine blk_drew ?_ | refine blk_alloc ?_ _)); refine blk_put (cs := #[.int .u64 a0_2, .int .u64 (IntKind.u64.wrap (a0_3 + 1)), .int .u64 0, .string (⟨#[]⟩ : ByteArray), .string (⟨#[]⟩ : ByteArray)]) ?_ 3 _ rfl; (with_reducible repeat (first | refine blk_drewN ?_ _ | refine blk_drew ?_ | refine blk_alloc ?_ _)); refine blk_put (cs := #[.int .u64 a0_2, .int .u64 (IntKind.u64.wrap (a0_3 + 1)), .int .u64 0, .string (⟨#[]⟩ : ByteArray), .string (⟨#[]⟩ : ByteArray)]) ?_ 2 _ rfl; (with_reducible repeat (first | refine blk_drewN ?_ _ | refine blk_drew ?_ | refine blk_alloc ?_ _)); refine blk_put (cs := #[.int .u64 a0_2, .int .u64 0, .int .u64 0, .string (⟨#[]⟩ : ByteArray), .string (⟨#[]⟩ : ByteArray)]) ?_ 1 _ rfl; (with_reducible repeat (first | refine blk_drewN ?_ _ | refine blk_drew ?_ | refine blk_alloc ?_ _)); refine blk_put (cs := #[.int .u64 (IntKind.u64.wrap (a0_2 + 1)), .int .u64 0, .int .u64 0, .string (⟨#[]⟩ : ByteArray), .string (⟨#[]⟩ : ByteArray)]) ?_ 0 _ rfl; (with_reducible repeat (first | refine blk_drewN ?_ _ | refine blk_drew ?_ | refine blk_alloc ?_ _)); refine blk_put (cs := #[.int .u64 (IntKind.u64.wrap (a0_2 + 1)), .int .u64 0, .int .u64 0, .string (⟨#[]⟩ : ByteArray), .string (⟨#[]⟩ : ByteArray)]) ?_ 4 _ rfl; (with_reducible repeat (first | refine blk_drewN ?_ _ | refine blk_drew ?_ | refine blk_alloc ?_ _)); refine blk_put (cs := #[.int .u64 (IntKind.u64.wrap (a0_2 + 1)), .int .u64 0, .int .u64 0, .string (⟨#[]⟩ : ByteArray), .string (⟨#[]⟩ : ByteArray)]) ?_ 3 _ rfl; (with_reducible repeat (first | refine blk_drewN ?_ _ | refine blk_drew ?_ | refine blk_alloc ?_ _)); refine blk_put (cs := #[.int .u64 (IntKind.u64.wrap (a0_2 + 1)), .int .u64 0, .int .u64 0, .string (⟨#[]⟩ : ByteArray), .string (⟨#[]⟩ : ByteArray)]) ?_ 2 _ rfl; (with_reducible repeat (first | refine blk_drewN ?_ _ | refine blk_drew ?_ | refine blk_alloc ?_ _)); refine blk_put (cs := #[.int .u64 (IntKind.u64.wrap (a0_2 + 1)), .int .u64 0, .int .u64 0, .string (⟨#[]⟩ : ByteArray), .string (⟨#[]⟩ : ByteArray)]) ?_ 1 _ rfl; (with_reducible repeat (first | refine blk_drewN ?_ _ | refine blk_drew ?_ | refine blk_alloc ?_ _)); refine blk_put (cs := #[.int .u64 0, .int .u64 0, .int .u64 0, .string (⟨#[]⟩ : ByteArray), .string (⟨#[]⟩ : ByteArray)]) ?_ 0 _ rfl; (with_reducible repeat (first | refine blk_drewN ?_ _ | refine blk_drew ?_ | refine blk_alloc ?_ _)); exact BK148.out⟩, ⟨by repeat (first | (with_reducible first | exact HB.out | apply below_alloc | apply pw_below_drewN | apply below_drew1 | refine below_set ?_ GE146.out | refine below_set ?_ GE147.out | refine below_set ?_ GE148.out) | exact HB.out)⟩⟩
    · rw [if_neg c13] at H
      have c13b0 : (a0_1 == 2) = false := beq_eq_false_iff_ne.mpr c13
      have c13b1 : (a0_1 != 2) = true := bne_iff_ne.mpr c13
      (first | rw [c13b0] | (simp only [i64_w, i32_w]; rw [c13b0]) | skip)
      have H' := Aside0.mk H
      clear H
      go_wp2
      go_meet
      case rel => exact ⟨_, (IntKind.u64.wrap (a0_2 + 1)), (0), (0), ((⟨#[]⟩ : ByteArray)), ((⟨#[]⟩ : ByteArray)), H', ⟨by first | omega | exact Nat.le_refl _⟩, ⟨by (with_reducible repeat (first | refine blk_drewN ?_ _ | refine blk_drew ?_ | refine blk_alloc ?_ _)); refine blk_far ?_ NB146_148.out _; (with_reducible repeat (first | refine blk_drewN ?_ _ | refine blk_drew ?_ | refine blk_alloc ?_ _)); refine blk_far ?_ NB146_148.out _; (with_reducible repeat (first | refine blk_drewN ?_ _ | refine blk_drew ?_ | refine blk_alloc ?_ _)); refine blk_far ?_ NB146_148.out _; (with_reducible repeat (first | refine blk_drewN ?_ _ | refine blk_drew ?_ | refine blk_alloc ?_ _)); refine blk_far ?_ NB146_148.out _; (with_reducible repeat (first | refine blk_drewN ?_ _ | refine blk_drew ?_ | refine blk_alloc ?_ _)); refine blk_far ?_ NB146_148.out _; (with_reducible repeat (first | refine blk_drewN ?_ _ | refine blk_drew ?_ | refine blk_alloc ?_ _)); exact BK146.out⟩, ⟨by (with_reducible repeat (first | refine blk_drewN ?_ _ | refine blk_drew ?_ | refine blk_alloc ?_ _)); refine blk_far ?_ NB147_148.out _; (with_reducible repeat (first | refine blk_drewN ?_ _ | refine blk_drew ?_ | refine blk_alloc ?_ _)); refine blk_far ?_ NB147_148.out _; (with_reducible repeat (first | refine blk_drewN ?_ _ | refine blk_drew ?_ | refine blk_alloc ?_ _)); refine blk_far ?_ NB147_148.out _; (with_reducible repeat (first | refine blk_drewN ?_ _ | refine blk_drew ?_ | refine blk_alloc ?_ _)); refine blk_far ?_ NB147_148.out _; (with_reducible repeat (first | refine blk_drewN ?_ _ | refine blk_drew ?_ | refine blk_alloc ?_ _)); refine blk_far ?_ NB147_148.out _; (with_reducible repeat (first | refine blk_drewN ?_ _ | refine blk_drew ?_ | refine blk_alloc ?_ _)); exact BK147.out⟩, ⟨by (with_reducible repeat (first | refine blk_drewN ?_ _ | refine blk_drew ?_ | refine blk_alloc ?_ _)); refine blk_put (cs := #[.int .u64 (IntKind.u64.wrap (a0_2 + 1)), .int .u64 0, .int .u64 0, .string (⟨#[]⟩ : ByteArray), .string (⟨#[]⟩ : ByteArray)]) ?_ 4 _ rfl; (with_reducible repeat (first | refine blk_drewN ?_ _ | refine blk_drew ?_ | refine blk_alloc ?_ _)); refine blk_put (cs := #[.int .u64 (IntKind.u64.wrap (a0_2 + 1)), .int .u64 0, .int .u64 0, .string (⟨#[]⟩ : ByteArray), .string (⟨#[]⟩ : ByteArray)]) ?_ 3 _ rfl; (with_reducible repeat (first | refine blk_drewN ?_ _ | refine blk_drew ?_ | refine blk_alloc ?_ _)); refine blk_put (cs := #[.int .u64 (IntKind.u64.wrap (a0_2 + 1)), .int .u64 0, .int .u64 0, .string (⟨#[]⟩ : ByteArray), .string (⟨#[]⟩ : ByteArray)]) ?_ 2 _ rfl; (with_reducible repeat (first | refine blk_drewN ?_ _ | refine blk_drew ?_ | refine blk_alloc ?_ _)); refine blk_put (cs := #[.int .u64 (IntKind.u64.wrap (a0_2 + 1)), .int .u64 0, .int .u64 0, .string (⟨#[]⟩ : ByteArray), .string (⟨#[]⟩ : ByteArray)]) ?_ 1 _ rfl; (with_reducible repeat (first | refine blk_drewN ?_ _ | refine blk_drew ?_ | refine blk_alloc ?_ _)); refine blk_put (cs := #[.int .u64 0, .int .u64 0, .int .u64 0, .string (⟨#[]⟩ : ByteArray), .string (⟨#[]⟩ : ByteArray)]) ?_ 0 _ rfl; (with_reducible repeat (first | refine blk_drewN ?_ _ | refine blk_drew ?_ | refine blk_alloc ?_ _)); exact BK148.out⟩, ⟨by repeat (first | (with_reducible first | exact HB.out | apply below_alloc | apply pw_below_drewN | apply below_drew1 | refine below_set ?_ GE146.out | refine below_set ?_ GE147.out | refine below_set ?_ GE148.out) | exact HB.out)⟩⟩
  case rest =>
    clear HC3
    try clear c1
    try clear p2
    try clear c6
    try clear c9
    try clear c10
    try clear c13
    try clear c13b0
    try clear c13b1
    try clear c14
    try clear c15
    try clear c17
    try clear hcz11_0
    try clear hcz11_1
    try clear hcz11_2
    try clear hcz11_3
    try clear hcz11_4
    try clear hcz12_0
    try clear hcz12_1
    try clear hcz12_2
    try clear hcz12_3
    try clear hcz12_4
    try clear hcz12_5
    try clear hcz16_0
    try clear hcz16_1
    try clear hcz16_2
    try clear hcz16_3
    try clear hcz16_4
    try clear hcz16_5
    try clear hcz18_0
    try clear hcz18_1
    try clear hcz18_2
    try clear hcz18_3
    try clear hcz18_4
    try clear hcz7_0
    try clear hcz7_1
    try clear hcz7_2
    try clear hcz7_3
    try clear hcz7_4
    try clear hcz7_5
    try clear hfz11_0
    try clear hfz11_1
    try clear hfz11_2
    try clear hfz11_3
    try clear hfz11_4
    try clear hfz12_0
    try clear hfz12_1
    try clear hfz12_2
    try clear hfz12_3
    try clear hfz12_4
    try clear hfz12_5
    try clear hfz16_0
    try clear hfz16_1
    try clear hfz16_2
    try clear hfz16_3
    try clear hfz16_4
    try clear hfz16_5
    try clear hfz18_0
    try clear hfz18_1
    try clear hfz18_2
    try clear hfz18_3
    try clear hfz18_4
    try clear hfz7_0
    try clear hfz7_1
    try clear hfz7_2
    try clear hfz7_3
    try clear hfz7_4
    try clear hfz7_5
    obtain ⟨kq, x149000_2, x149001_2, x149002_2, x149003_2, x149004_2, HA, HJ2, BK146, BK147, BK148, HB⟩ := hcut
    cases kq with
    | zero => exact absurd HA.out (by simp [spec_Spoken.j0])
    | succ kj2 =>
      have H := HA.out
      clear HA
      simp only [spec_Spoken.j0] at H
      by_cases c19 : a0_1 = 3
      · rw [if_pos c19] at H
        have c19b0 : (a0_1 == 3) = true := beq_iff_eq.mpr c19
        have c19b1 : (a0_1 != 3) = false := bne_eq_false_iff_eq.mpr c19
        clear c19
        obtain rfl := Option.some.inj H
        have hnb20 := NB146_147.out
        have hnc20 := NB147_146.out
        have hnb21 := NB146_148.out
        have hnc21 := NB148_146.out
        have hcz22_0 : wc.cell? ⟨gb146, 0, none⟩ = some (.int .i64 a0_0) := (blk_cell BK146.out 0).trans rfl
        have hcz22_1 : wc.cell? ⟨gb146, 1, none⟩ = some (.int .i64 a0_1) := (blk_cell BK146.out 1).trans rfl
        have hcz22_2 : wc.cell? ⟨gb146, 2, none⟩ = some (.int .u64 a0_2) := (blk_cell BK146.out 2).trans rfl
        have hcz22_3 : wc.cell? ⟨gb146, 3, none⟩ = some (.int .u64 a0_3) := (blk_cell BK146.out 3).trans rfl
        have hcz22_4 : wc.cell? ⟨gb146, 4, none⟩ = some (.int .u64 a0_4) := (blk_cell BK146.out 4).trans rfl
        have hcz22_5 : wc.cell? ⟨gb146, 5, none⟩ = some (.string a0_5) := (blk_cell BK146.out 5).trans rfl
        have hfz22_0 := blk_frozen BK146.out 0
        have hfz22_1 := blk_frozen BK146.out 1
        have hfz22_2 := blk_frozen BK146.out 2
        have hfz22_3 := blk_frozen BK146.out 3
        have hfz22_4 := blk_frozen BK146.out 4
        have hfz22_5 := blk_frozen BK146.out 5
        go_wp2
        go_ret
        exact ⟨by first | rfl | (simp [errW_none, errW_some] <;> rfl) | (simp [*, errW_none, errW_some] <;> rfl), by repeat (first | (with_reducible first | exact HB.out | apply below_alloc | apply pw_below_drewN | apply below_drew1 | refine below_set ?_ GE146.out | refine below_set ?_ GE147.out | refine below_set ?_ GE148.out) | exact HB.out)⟩
      · rw [if_neg c19] at H
        have c19b0 : (a0_1 == 3) = false := beq_eq_false_iff_ne.mpr c19
        have c19b1 : (a0_1 != 3) = true := bne_iff_ne.mpr c19
        by_cases c23 : a0_0 = 5
        · rw [if_pos c23] at H
          have c23b0 : (a0_0 == 5) = true := beq_iff_eq.mpr c23
          have c23b1 : (a0_0 != 5) = false := bne_eq_false_iff_eq.mpr c23
          clear c23
          replace H := Option.bind_eq_some_iff.mp H
          obtain ⟨t149, A240, H⟩ := H
          replace H : (some (t149 != 0)) = some r := H
          have A24 := Aside0.mk A240
          clear A240
          obtain rfl := Option.some.inj H
          have hnb25 := NB146_147.out
          have hnc25 := NB147_146.out
          have hnb26 := NB146_148.out
          have hnc26 := NB148_146.out
          have hcz27_0 : wc.cell? ⟨gb146, 0, none⟩ = some (.int .i64 a0_0) := (blk_cell BK146.out 0).trans rfl
          have hcz27_1 : wc.cell? ⟨gb146, 1, none⟩ = some (.int .i64 a0_1) := (blk_cell BK146.out 1).trans rfl
          have hcz27_2 : wc.cell? ⟨gb146, 2, none⟩ = some (.int .u64 a0_2) := (blk_cell BK146.out 2).trans rfl
          have hcz27_3 : wc.cell? ⟨gb146, 3, none⟩ = some (.int .u64 a0_3) := (blk_cell BK146.out 3).trans rfl
          have hcz27_4 : wc.cell? ⟨gb146, 4, none⟩ = some (.int .u64 a0_4) := (blk_cell BK146.out 4).trans rfl
          have hcz27_5 : wc.cell? ⟨gb146, 5, none⟩ = some (.string a0_5) := (blk_cell BK146.out 5).trans rfl
          have hfz27_0 := blk_frozen BK146.out 0
          have hfz27_1 := blk_frozen BK146.out 1
          have hfz27_2 := blk_frozen BK146.out 2
          have hfz27_3 := blk_frozen BK146.out 3
          have hfz27_4 := blk_frozen BK146.out 4
          have hfz27_5 := blk_frozen BK146.out 5
          have hnb28 := NB147_148.out
          have hnc28 := NB148_147.out
          have hcz29_0 : wc.cell? ⟨gb147, 0, none⟩ = some (.int .u64 a1_0) := (blk_cell BK147.out 0).trans rfl
          have hcz29_1 : wc.cell? ⟨gb147, 1, none⟩ = some (.int .u64 a1_1) := (blk_cell BK147.out 1).trans rfl
          have hcz29_2 : wc.cell? ⟨gb147, 2, none⟩ = some (.int .u64 a1_2) := (blk_cell BK147.out 2).trans rfl
          have hcz29_3 : wc.cell? ⟨gb147, 3, none⟩ = some (.string a1_3) := (blk_cell BK147.out 3).trans rfl
          have hcz29_4 : wc.cell? ⟨gb147, 4, none⟩ = some (.string a1_4) := (blk_cell BK147.out 4).trans rfl
          have hfz29_0 := blk_frozen BK147.out 0
          have hfz29_1 := blk_frozen BK147.out 1
          have hfz29_2 := blk_frozen BK147.out 2
          have hfz29_3 := blk_frozen BK147.out 3
          have hfz29_4 := blk_frozen BK147.out 4
          have hcz30_0 : wc.cell? ⟨gb148, 0, none⟩ = some (.int .u64 x149000_2) := (blk_cell BK148.out 0).trans rfl
          have hcz30_1 : wc.cell? ⟨gb148, 1, none⟩ = some (.int .u64 x149001_2) := (blk_cell BK148.out 1).trans rfl
          have hcz30_2 : wc.cell? ⟨gb148, 2, none⟩ = some (.int .u64 x149002_2) := (blk_cell BK148.out 2).trans rfl
          have hcz30_3 : wc.cell? ⟨gb148, 3, none⟩ = some (.string x149003_2) := (blk_cell BK148.out 3).trans rfl
          have hcz30_4 : wc.cell? ⟨gb148, 4, none⟩ = some (.string x149004_2) := (blk_cell BK148.out 4).trans rfl
          have hfz30_0 := blk_frozen BK148.out 0
          have hfz30_1 := blk_frozen BK148.out 1
          have hfz30_2 := blk_frozen BK148.out 2
          have hfz30_3 := blk_frozen BK148.out 3
          have hfz30_4 := blk_frozen BK148.out 4
          go_wp2_with (first | ((with_reducible refine gate_callee (f := 111) rfl ?_); refine goesL_ (some 29) rfl rfl Tryd.func111 (by kernel_rfl) rfl #[.agg #[.int .u64 a1_0, .int .u64 a1_1, .int .u64 a1_2, .string a1_3, .string a1_4], .agg #[.int .u64 x149000_2, .int .u64 x149001_2, .int .u64 x149002_2, .string x149003_2, .string x149004_2], .int .i64 3] rfl (by (try simp only [List.map_toArray, List.map_cons, List.map_nil]); first | done | rfl | (simp only [List.length_drop, List.length_take]; rfl)) ?_; (with_reducible refine (Hand.CompareNumbers.calls a1_0 a1_1 a1_2 a1_3 a1_4 x149000_2 x149001_2 x149002_2 x149003_2 x149004_2 3 t149 _ A24.out).mono ?_); rintro e w31 ⟨rfl, hb⟩; refine ⟨_, rfl, ?_⟩; have n0_ := Aside0.mk (blk_below (g := gb146) (o := .cells #[.int .i64 a0_0, .int .i64 a0_1, .int .u64 a0_2, .int .u64 a0_3, .int .u64 a0_4, .string a0_5] 42 (0, 0)) (by (with_reducible repeat (first | refine blk_drewN ?_ _ | refine blk_drew ?_ | refine blk_alloc ?_ _)); exact BK146.out) hb); have n1_ := Aside0.mk (blk_below (g := gb147) (o := .cells #[.int .u64 a1_0, .int .u64 a1_1, .int .u64 a1_2, .string a1_3, .string a1_4] 29 (0, 0)) (by (with_reducible repeat (first | refine blk_drewN ?_ _ | refine blk_drew ?_ | refine blk_alloc ?_ _)); exact BK147.out) hb); have n2_ := Aside0.mk (blk_below (g := gb148) (o := .cells #[.int .u64 x149000_2, .int .u64 x149001_2, .int .u64 x149002_2, .string x149003_2, .string x149004_2] 29 (0, 0)) (by (with_reducible repeat (first | refine blk_drewN ?_ _ | refine blk_drew ?_ | refine blk_alloc ?_ _)); exact BK148.out) hb); have n3_ := Aside0.mk (below_step (by repeat (first | (with_reducible first | exact HB.out | apply below_alloc | apply pw_below_drewN | apply below_drew1 | refine below_set ?_ GE146.out | refine below_set ?_ GE147.out | refine below_set ?_ GE148.out) | exact HB.out)) hb); clear BK146; clear BK147; clear BK148; clear HB; have BK146 := n0_; have BK147 := n1_; have BK148 := n2_; have HB := n3_; clear n0_ n1_ n2_ n3_; (try clear hb); (try clear hb2); (try clear hk); (try clear hi)))
          go_ret
          exact ⟨by first | rfl | (simp [errW_none, errW_some] <;> rfl) | (simp [*, errW_none, errW_some] <;> rfl), by repeat (first | (with_reducible first | exact HB.out | apply below_alloc | apply pw_below_drewN | apply below_drew1 | refine below_set ?_ GE146.out | refine below_set ?_ GE147.out | refine below_set ?_ GE148.out) | exact HB.out)⟩
        · rw [if_neg c23] at H
          have c23b0 : (a0_0 == 5) = false := beq_eq_false_iff_ne.mpr c23
          have c23b1 : (a0_0 != 5) = true := bne_iff_ne.mpr c23
          by_cases c32 : a0_0 = 1
          · rw [if_pos c32] at H
            have c32b0 : (a0_0 == 1) = true := beq_iff_eq.mpr c32
            have c32b1 : (a0_0 != 1) = false := bne_eq_false_iff_eq.mpr c32
            clear c32
            obtain rfl := Option.some.inj H
            have hnb33 := NB146_147.out
            have hnc33 := NB147_146.out
            have hnb34 := NB146_148.out
            have hnc34 := NB148_146.out
            have hcz35_0 : wc.cell? ⟨gb146, 0, none⟩ = some (.int .i64 a0_0) := (blk_cell BK146.out 0).trans rfl
            have hcz35_1 : wc.cell? ⟨gb146, 1, none⟩ = some (.int .i64 a0_1) := (blk_cell BK146.out 1).trans rfl
            have hcz35_2 : wc.cell? ⟨gb146, 2, none⟩ = some (.int .u64 a0_2) := (blk_cell BK146.out 2).trans rfl
            have hcz35_3 : wc.cell? ⟨gb146, 3, none⟩ = some (.int .u64 a0_3) := (blk_cell BK146.out 3).trans rfl
            have hcz35_4 : wc.cell? ⟨gb146, 4, none⟩ = some (.int .u64 a0_4) := (blk_cell BK146.out 4).trans rfl
            have hcz35_5 : wc.cell? ⟨gb146, 5, none⟩ = some (.string a0_5) := (blk_cell BK146.out 5).trans rfl
            have hfz35_0 := blk_frozen BK146.out 0
            have hfz35_1 := blk_frozen BK146.out 1
            have hfz35_2 := blk_frozen BK146.out 2
            have hfz35_3 := blk_frozen BK146.out 3
            have hfz35_4 := blk_frozen BK146.out 4
            have hfz35_5 := blk_frozen BK146.out 5
            have hnb36 := NB147_148.out
            have hnc36 := NB148_147.out
            have hcz37_0 : wc.cell? ⟨gb147, 0, none⟩ = some (.int .u64 a1_0) := (blk_cell BK147.out 0).trans rfl
            have hcz37_1 : wc.cell? ⟨gb147, 1, none⟩ = some (.int .u64 a1_1) := (blk_cell BK147.out 1).trans rfl
            have hcz37_2 : wc.cell? ⟨gb147, 2, none⟩ = some (.int .u64 a1_2) := (blk_cell BK147.out 2).trans rfl
            have hcz37_3 : wc.cell? ⟨gb147, 3, none⟩ = some (.string a1_3) := (blk_cell BK147.out 3).trans rfl
            have hcz37_4 : wc.cell? ⟨gb147, 4, none⟩ = some (.string a1_4) := (blk_cell BK147.out 4).trans rfl
            have hfz37_0 := blk_frozen BK147.out 0
            have hfz37_1 := blk_frozen BK147.out 1
            have hfz37_2 := blk_frozen BK147.out 2
            have hfz37_3 := blk_frozen BK147.out 3
            have hfz37_4 := blk_frozen BK147.out 4
            go_wp2
            go_ret
            exact ⟨by first | rfl | (simp [errW_none, errW_some] <;> rfl) | (simp [*, errW_none, errW_some] <;> rfl), by repeat (first | (with_reducible first | exact HB.out | apply below_alloc | apply pw_below_drewN | apply below_drew1 | refine below_set ?_ GE146.out | refine below_set ?_ GE147.out | refine below_set ?_ GE148.out) | exact HB.out)⟩
          · rw [if_neg c32] at H
            have c32b0 : (a0_0 == 1) = false := beq_eq_false_iff_ne.mpr c32
            have c32b1 : (a0_0 != 1) = true := bne_iff_ne.mpr c32
            obtain rfl := Option.some.inj H
            have hnb38 := NB146_147.out
            have hnc38 := NB147_146.out
            have hnb39 := NB146_148.out
            have hnc39 := NB148_146.out
            have hcz40_0 : wc.cell? ⟨gb146, 0, none⟩ = some (.int .i64 a0_0) := (blk_cell BK146.out 0).trans rfl
            have hcz40_1 : wc.cell? ⟨gb146, 1, none⟩ = some (.int .i64 a0_1) := (blk_cell BK146.out 1).trans rfl
            have hcz40_2 : wc.cell? ⟨gb146, 2, none⟩ = some (.int .u64 a0_2) := (blk_cell BK146.out 2).trans rfl
            have hcz40_3 : wc.cell? ⟨gb146, 3, none⟩ = some (.int .u64 a0_3) := (blk_cell BK146.out 3).trans rfl
            have hcz40_4 : wc.cell? ⟨gb146, 4, none⟩ = some (.int .u64 a0_4) := (blk_cell BK146.out 4).trans rfl
            have hcz40_5 : wc.cell? ⟨gb146, 5, none⟩ = some (.string a0_5) := (blk_cell BK146.out 5).trans rfl
            have hfz40_0 := blk_frozen BK146.out 0
            have hfz40_1 := blk_frozen BK146.out 1
            have hfz40_2 := blk_frozen BK146.out 2
            have hfz40_3 := blk_frozen BK146.out 3
            have hfz40_4 := blk_frozen BK146.out 4
            have hfz40_5 := blk_frozen BK146.out 5
            go_wp2
            go_ret
            exact ⟨by first | rfl | (simp [errW_none, errW_some] <;> rfl) | (simp [*, errW_none, errW_some] <;> rfl), by repeat (first | (with_reducible first | exact HB.out | apply below_alloc | apply pw_below_drewN | apply below_drew1 | refine below_set ?_ GE146.out | refine below_set ?_ GE147.out | refine below_set ?_ GE148.out) | exact HB.out)⟩

/-! ### laws_snAsked: function 37 -/
def laws_snAsked.f (k : Nat) (a0_0 : Int) (a0_1 : Int) (a0_2 : Int) (a0_3 : Int) (a0_4 : Int) (a0_5 : ByteArray) (a1 : Int) (a2_0 : Int) (a2_1 : Int) (a2_2 : Int) (a2_3 : ByteArray) (a2_4 : ByteArray) : Option (Bool) := (laws_snAs.f a0_0 a0_1 a0_2 a0_3 a0_4 a0_5 a1).bind fun bt152 => ((spec_GoodTerm.f k bt152.1 bt152.2.1 bt152.2.2.1 bt152.2.2.2.1 bt152.2.2.2.2.1 bt152.2.2.2.2.2).bind fun t158 => (if t158 = true then ((laws_svGood.f k (([(⟨a2_0, a2_1, a2_2, a2_3, a2_4⟩ : S29)] : List (S29)))).bind fun t162 => (if t162 = true then ((spec_Spoken.f k bt152.1 bt152.2.1 bt152.2.2.1 bt152.2.2.2.1 bt152.2.2.2.2.1 bt152.2.2.2.2.2 a2_0 a2_1 a2_2 a2_3 a2_4).bind fun t163 => (some t163)) else (some false))) else (some false)))
theorem laws_snAsked.mono : ∀ a0 a1 a2 a3 a4 a5 a6 a7 a8 a9 a10 a11 k, LeO (laws_snAsked.f k a0 a1 a2 a3 a4 a5 a6 a7 a8 a9 a10 a11) (laws_snAsked.f (k + 1) a0 a1 a2 a3 a4 a5 a6 a7 a8 a9 a10 a11) := by
  intro a0 a1 a2 a3 a4 a5 a6 a7 a8 a9 a10 a11 k
  unfold laws_snAsked.f
  repeat' first
      | (with_reducible exact laws_svGood.mono _ _)
      | (with_reducible exact spec_GoodTerm.mono _ _ _ _ _ _ _)
      | (with_reducible exact spec_Spoken.mono _ _ _ _ _ _ _ _ _ _ _ _)
      | (with_reducible exact LeO.refl _)
      | (with_reducible exact LeO.none _)
      | (with_reducible refine LeO.ite ?_ ?_)
      | (with_reducible refine LeO.bind ?_ (fun _ => ?_))
      | exact laws_svGood.mono _ _
      | exact spec_GoodTerm.mono _ _ _ _ _ _ _
      | exact spec_Spoken.mono _ _ _ _ _ _ _ _ _ _ _ _
      | exact LeO.none _
      | refine LeO.ite ?_ ?_
      | refine LeO.bind ?_ (fun _ => ?_)
set_option maxHeartbeats 8000000 in
set_option maxRecDepth 100000 in
theorem laws_snAsked.calls (k : Nat) (a0_0 : Int) (a0_1 : Int) (a0_2 : Int) (a0_3 : Int) (a0_4 : Int) (a0_5 : ByteArray) (a1 : Int) (a2_0 : Int) (a2_1 : Int) (a2_2 : Int) (a2_3 : ByteArray) (a2_4 : ByteArray) (r : Bool) (w : World) (h : laws_snAsked.f k a0_0 a0_1 a0_2 a0_3 a0_4 a0_5 a1 a2_0 a2_1 a2_2 a2_3 a2_4 = some r) :
    Calls Tryd.prog 37 #[.agg #[.int .i64 a0_0, .int .i64 a0_1, .int .u64 a0_2, .int .u64 a0_3, .int .u64 a0_4, .string a0_5], .int .i64 a1, .agg #[.int .u64 a2_0, .int .u64 a2_1, .int .u64 a2_2, .string a2_3, .string a2_4]] w fun e w' => e = .returned (.bool r) ∧ Below w.heap.size w w' := by
  have hu42 := Tryd.underlying42
  have hu29 := Tryd.underlying29
  have HB := Aside0.mk (Below.refl w.heap.size w)
  have H : ((laws_snAs.f a0_0 a0_1 a0_2 a0_3 a0_4 a0_5 a1).bind fun bt152 => ((spec_GoodTerm.f k bt152.1 bt152.2.1 bt152.2.2.1 bt152.2.2.2.1 bt152.2.2.2.2.1 bt152.2.2.2.2.2).bind fun t158 => (if t158 = true then ((laws_svGood.f k (([(⟨a2_0, a2_1, a2_2, a2_3, a2_4⟩ : S29)] : List (S29)))).bind fun t162 => (if t162 = true then ((spec_Spoken.f k bt152.1 bt152.2.1 bt152.2.2.1 bt152.2.2.2.1 bt152.2.2.2.2.1 bt152.2.2.2.2.2 a2_0 a2_1 a2_2 a2_3 a2_4).bind fun t163 => (some t163)) else (some false))) else (some false)))) = some r := h
  clear h
  replace H := Option.bind_eq_some_iff.mp H
  obtain ⟨⟨t152, t153, t154, t155, t156, t157⟩, A40, H⟩ := H
  replace H : ((spec_GoodTerm.f k t152 t153 t154 t155 t156 t157).bind fun t158 => (if t158 = true then ((laws_svGood.f k (([(⟨a2_0, a2_1, a2_2, a2_3, a2_4⟩ : S29)] : List (S29)))).bind fun t162 => (if t162 = true then ((spec_Spoken.f k t152 t153 t154 t155 t156 t157 a2_0 a2_1 a2_2 a2_3 a2_4).bind fun t163 => (some t163)) else (some false))) else (some false))) = some r := H
  have A4 := Aside0.mk A40
  clear A40
  replace H := Option.bind_eq_some_iff.mp H
  obtain ⟨t158, A50, H⟩ := H
  replace H : (if t158 = true then ((laws_svGood.f k (([(⟨a2_0, a2_1, a2_2, a2_3, a2_4⟩ : S29)] : List (S29)))).bind fun t162 => (if t162 = true then ((spec_Spoken.f k t152 t153 t154 t155 t156 t157 a2_0 a2_1 a2_2 a2_3 a2_4).bind fun t163 => (some t163)) else (some false))) else (some false)) = some r := H
  have A5 := Aside0.mk A50
  clear A50
  by_cases c6 : t158 = true
  · subst c6
    have H1 : ((laws_svGood.f k (([(⟨a2_0, a2_1, a2_2, a2_3, a2_4⟩ : S29)] : List (S29)))).bind fun t162 => (if t162 = true then ((spec_Spoken.f k t152 t153 t154 t155 t156 t157 a2_0 a2_1 a2_2 a2_3 a2_4).bind fun t163 => (some t163)) else (some false))) = some r := by rw [if_pos rfl] at H; exact H
    clear H
    have H := H1
    clear H1
    obtain ⟨y159, hy159⟩ : ∃ y_ : List (S29), y_ = (([(⟨a2_0, a2_1, a2_2, a2_3, a2_4⟩ : S29)] : List (S29))) := ⟨_, rfl⟩
    replace H : ((laws_svGood.f k y159).bind fun t162 => (if t162 = true then ((spec_Spoken.f k t152 t153 t154 t155 t156 t157 a2_0 a2_1 a2_2 a2_3 a2_4).bind fun t163 => (some t163)) else (some false))) = some r := by first | (rw [hy159]; with_reducible exact H) | (have H2_ := (Option.bind_some _ _).symm.trans H; rw [hy159]; with_reducible exact H2_) | (have H2_ := (Option.bind_some _ _).symm.trans H; with_reducible exact H2_) | with_reducible exact H | (rw [hy159]; exact H) | exact H
    have Ny159 := Aside0.mk hy159
    clear hy159
    replace H := Option.bind_eq_some_iff.mp H
    obtain ⟨t162, A70, H⟩ := H
    replace H : (if t162 = true then ((spec_Spoken.f k t152 t153 t154 t155 t156 t157 a2_0 a2_1 a2_2 a2_3 a2_4).bind fun t163 => (some t163)) else (some false)) = some r := H
    have A7 := Aside0.mk A70
    clear A70
    by_cases c8 : t162 = true
    · subst c8
      have H1 : ((spec_Spoken.f k t152 t153 t154 t155 t156 t157 a2_0 a2_1 a2_2 a2_3 a2_4).bind fun t163 => (some t163)) = some r := by rw [if_pos rfl] at H; exact H
      clear H
      have H := H1
      clear H1
      replace H := Option.bind_eq_some_iff.mp H
      obtain ⟨t163, A90, H⟩ := H
      replace H : (some t163) = some r := H
      have A9 := Aside0.mk A90
      clear A90
      obtain rfl := Option.some.inj H
      go_enter Tryd.func37, Tryd.ntmps37
      go_wp2_with (first | ((with_reducible refine gate_dst (N := 3) rfl ?_); (try (refine gate_guard (by rfl) ?_; dsimp only)); refine box_event ?hg (N := 3) ?hd (cs := #[.int .i64 a0_0, .int .i64 a0_1, .int .u64 a0_2, .int .u64 a0_3, .int .u64 a0_4, .string a0_5]) (t := 42) ?hr ?_; (case hd => rfl); (case hg => rfl); (case hr => first | (go_simp; done) | (go_simp; rfl)); intro gb150 hg w10 hbox hb; have n0_ := Aside0.mk (below_step (by repeat (first | (with_reducible first | exact HB.out | apply below_alloc | apply pw_below_drewN | apply below_drew1) | exact HB.out)) hb); have n1_ := Aside0.mk (hbox); have n2_ := Aside0.mk ((by rw [hg]; exact (below_size (by repeat (first | (with_reducible first | exact HB.out | apply below_alloc | apply pw_below_drewN | apply below_drew1) | exact HB.out))) : w.heap.size ≤ gb150)); have n3_ := Aside0.mk ((by rw [hg]; exact (below_size (by repeat (first | (with_reducible first | exact HB.out | apply below_alloc | apply pw_below_drewN | apply below_drew1) | exact HB.out))) : w.heap.size ≤ gb150)); clear HB; have HB := n0_; have BK150 := n1_; have GW150 := n2_; have GE150 := n3_; clear n0_ n1_ n2_ n3_; clear hb hbox hg) | ((with_reducible refine gate_dst (N := 5) rfl ?_); (try (refine gate_guard (by rfl) ?_; dsimp only)); refine box_event ?hg (N := 5) ?hd (cs := #[.int .u64 a2_0, .int .u64 a2_1, .int .u64 a2_2, .string a2_3, .string a2_4]) (t := 29) ?hr ?_; (case hd => rfl); (case hg => rfl); (case hr => first | (go_simp; done) | (go_simp; rfl)); intro gb151 hg w11 hbox hb; have n0_ := Aside0.mk (blk_below (g := gb150) (o := .cells #[.int .i64 a0_0, .int .i64 a0_1, .int .u64 a0_2, .int .u64 a0_3, .int .u64 a0_4, .string a0_5] 42 (0, 0)) (by (with_reducible repeat (first | refine blk_drewN ?_ _ | refine blk_drew ?_ | refine blk_alloc ?_ _)); exact BK150.out) hb); have n1_ := Aside0.mk (below_step (by repeat (first | (with_reducible first | exact HB.out | apply below_alloc | apply pw_below_drewN | apply below_drew1 | refine below_set ?_ GE150.out) | exact HB.out)) hb); have n2_ := Aside0.mk (hbox); have n3_ := Aside0.mk ((by rw [hg]; exact (below_size (by repeat (first | (with_reducible first | exact HB.out | apply below_alloc | apply pw_below_drewN | apply below_drew1 | refine below_set ?_ GE150.out) | exact HB.out))) : w.heap.size ≤ gb151)); have n4_ := Aside0.mk ((by rw [hg]; exact (below_size (by repeat (first | (with_reducible first | exact HB.out | apply below_alloc | apply pw_below_drewN | apply below_drew1 | refine below_set ?_ GE150.out) | exact HB.out))) : w.heap.size ≤ gb151)); have n5_ := Aside0.mk ((by rw [hg]; exact Nat.ne_of_lt (blk_lt (g := gb150) (o := .cells #[.int .i64 a0_0, .int .i64 a0_1, .int .u64 a0_2, .int .u64 a0_3, .int .u64 a0_4, .string a0_5] 42 (0, 0)) (by (with_reducible repeat (first | refine blk_drewN ?_ _ | refine blk_drew ?_ | refine blk_alloc ?_ _)); exact BK150.out)) : gb150 ≠ gb151)); have n6_ := Aside0.mk ((by rw [hg]; exact Nat.ne_of_gt (blk_lt (g := gb150) (o := .cells #[.int .i64 a0_0, .int .i64 a0_1, .int .u64 a0_2, .int .u64 a0_3, .int .u64 a0_4, .string a0_5] 42 (0, 0)) (by (with_reducible repeat (first | refine blk_drewN ?_ _ | refine blk_drew ?_ | refine blk_alloc ?_ _)); exact BK150.out)) : gb151 ≠ gb150)); clear BK150; clear HB; have BK150 := n0_; have HB := n1_; have BK151 := n2_; have GW151 := n3_; have GE151 := n4_; have NB150_151 := n5_; have NB151_150 := n6_; clear n0_ n1_ n2_ n3_ n4_ n5_ n6_; clear hb hbox hg; have hnb12 := NB150_151.out; have hnc12 := NB151_150.out; have hcz13_0 : w11.cell? ⟨gb150, 0, none⟩ = some (.int .i64 a0_0) := (blk_cell BK150.out 0).trans rfl; have hcz13_1 : w11.cell? ⟨gb150, 1, none⟩ = some (.int .i64 a0_1) := (blk_cell BK150.out 1).trans rfl; have hcz13_2 : w11.cell? ⟨gb150, 2, none⟩ = some (.int .u64 a0_2) := (blk_cell BK150.out 2).trans rfl; have hcz13_3 : w11.cell? ⟨gb150, 3, none⟩ = some (.int .u64 a0_3) := (blk_cell BK150.out 3).trans rfl; have hcz13_4 : w11.cell? ⟨gb150, 4, none⟩ = some (.int .u64 a0_4) := (blk_cell BK150.out 4).trans rfl; have hcz13_5 : w11.cell? ⟨gb150, 5, none⟩ = some (.string a0_5) := (blk_cell BK150.out 5).trans rfl; have hfz13_0 := blk_frozen BK150.out 0; have hfz13_1 := blk_frozen BK150.out 1; have hfz13_2 := blk_frozen BK150.out 2; have hfz13_3 := blk_frozen BK150.out 3; have hfz13_4 := blk_frozen BK150.out 4; have hfz13_5 := blk_frozen BK150.out 5) | ((with_reducible refine gate_callee (f := 91) rfl ?_); refine goesL_ (some 9) rfl rfl Tryd.func91 (by kernel_rfl) rfl #[.agg #[.int .i64 a0_0, .int .i64 a0_1, .int .u64 a0_2, .int .u64 a0_3, .int .u64 a0_4, .string a0_5], .int .i64 a1] rfl (by (try simp only [List.map_toArray, List.map_cons, List.map_nil]); first | done | rfl | (simp only [List.length_drop, List.length_take]; rfl)) ?_; (with_reducible refine (laws_snAs.calls a0_0 a0_1 a0_2 a0_3 a0_4 a0_5 a1 t152 t153 t154 t155 t156 t157 _ A4.out).mono ?_); rintro e w14 ⟨rfl, hb⟩; refine ⟨_, rfl, ?_⟩; have n0_ := Aside0.mk (blk_below (g := gb150) (o := .cells #[.int .i64 a0_0, .int .i64 a0_1, .int .u64 a0_2, .int .u64 a0_3, .int .u64 a0_4, .string a0_5] 42 (0, 0)) (by (with_reducible repeat (first | refine blk_drewN ?_ _ | refine blk_drew ?_ | refine blk_alloc ?_ _)); exact BK150.out) hb); have n1_ := Aside0.mk (blk_below (g := gb151) (o := .cells #[.int .u64 a2_0, .int .u64 a2_1, .int .u64 a2_2, .string a2_3, .string a2_4] 29 (0, 0)) (by (with_reducible repeat (first | refine blk_drewN ?_ _ | refine blk_drew ?_ | refine blk_alloc ?_ _)); exact BK151.out) hb); have n2_ := Aside0.mk (below_step (by repeat (first | (with_reducible first | exact HB.out | apply below_alloc | apply pw_below_drewN | apply below_drew1 | refine below_set ?_ GE150.out | refine below_set ?_ GE151.out) | exact HB.out)) hb); clear BK150; clear BK151; clear HB; have BK150 := n0_; have BK151 := n1_; have HB := n2_; clear n0_ n1_ n2_; (try clear hb); (try clear hb2); (try clear hk); (try clear hi); have hcz15_0 : w14.cell? ⟨gb150, 0, none⟩ = some (.int .i64 a0_0) := (blk_cell BK150.out 0).trans rfl; have hcz15_1 : w14.cell? ⟨gb150, 1, none⟩ = some (.int .i64 a0_1) := (blk_cell BK150.out 1).trans rfl; have hcz15_2 : w14.cell? ⟨gb150, 2, none⟩ = some (.int .u64 a0_2) := (blk_cell BK150.out 2).trans rfl; have hcz15_3 : w14.cell? ⟨gb150, 3, none⟩ = some (.int .u64 a0_3) := (blk_cell BK150.out 3).trans rfl; have hcz15_4 : w14.cell? ⟨gb150, 4, none⟩ = some (.int .u64 a0_4) := (blk_cell BK150.out 4).trans rfl; have hcz15_5 : w14.cell? ⟨gb150, 5, none⟩ = some (.string a0_5) := (blk_cell BK150.out 5).trans rfl; have hfz15_0 := blk_frozen BK150.out 0; have hfz15_1 := blk_frozen BK150.out 1; have hfz15_2 := blk_frozen BK150.out 2; have hfz15_3 := blk_frozen BK150.out 3; have hfz15_4 := blk_frozen BK150.out 4; have hfz15_5 := blk_frozen BK150.out 5) | ((with_reducible refine gate_callee (f := 63) rfl ?_); refine goesL_ (some 11) rfl rfl Tryd.func63 (by kernel_rfl) rfl #[.agg #[.int .i64 t152, .int .i64 t153, .int .u64 t154, .int .u64 t155, .int .u64 t156, .string t157]] rfl (by (try simp only [List.map_toArray, List.map_cons, List.map_nil]); first | done | rfl | (simp only [List.length_drop, List.length_take]; rfl)) ?_; (with_reducible refine (spec_GoodTerm.calls k t152 t153 t154 t155 t156 t157 true _ A5.out).mono ?_); rintro e w16 ⟨rfl, hb⟩; refine ⟨_, rfl, ?_⟩; have n0_ := Aside0.mk (blk_below (g := gb150) (o := .cells #[.int .i64 t152, .int .i64 t153, .int .u64 t154, .int .u64 t155, .int .u64 t156, .string t157] 42 (0, 0)) (by (with_reducible repeat (first | refine blk_drewN ?_ _ | refine blk_drew ?_ | refine blk_alloc ?_ _)); refine blk_put (cs := #[.int .i64 t152, .int .i64 t153, .int .u64 t154, .int .u64 t155, .int .u64 t156, .string a0_5]) ?_ 5 _ rfl; (with_reducible repeat (first | refine blk_drewN ?_ _ | refine blk_drew ?_ | refine blk_alloc ?_ _)); refine blk_put (cs := #[.int .i64 t152, .int .i64 t153, .int .u64 t154, .int .u64 t155, .int .u64 a0_4, .string a0_5]) ?_ 4 _ rfl; (with_reducible repeat (first | refine blk_drewN ?_ _ | refine blk_drew ?_ | refine blk_alloc ?_ _)); refine blk_put (cs := #[.int .i64 t152, .int .i64 t153, .int .u64 t154, .int .u64 a0_3, .int .u64 a0_4, .string a0_5]) ?_ 3 _ rfl; (with_reducible repeat (first | refine blk_drewN ?_ _ | refine blk_drew ?_ | refine blk_alloc ?_ _)); refine blk_put (cs := #[.int .i64 t152, .int .i64 t153, .int .u64 a0_2, .int .u64 a0_3, .int .u64 a0_4, .string a0_5]) ?_ 2 _ rfl; (with_reducible repeat (first | refine blk_drewN ?_ _ | refine blk_drew ?_ | refine blk_alloc ?_ _)); refine blk_put (cs := #[.int .i64 t152, .int .i64 a0_1, .int .u64 a0_2, .int .u64 a0_3, .int .u64 a0_4, .string a0_5]) ?_ 1 _ rfl; (with_reducible repeat (first | refine blk_drewN ?_ _ | refine blk_drew ?_ | refine blk_alloc ?_ _)); refine blk_put (cs := #[.int .i64 a0_0, .int .i64 a0_1, .int .u64 a0_2, .int .u64 a0_3, .int .u64 a0_4, .string a0_5]) ?_ 0 _ rfl; (with_reducible repeat (first | refine blk_drewN ?_ _ | refine blk_drew ?_ | refine blk_alloc ?_ _)); exact BK150.out) hb); have n1_ := Aside0.mk (blk_below (g := gb151) (o := .cells #[.int .u64 a2_0, .int .u64 a2_1, .int .u64 a2_2, .string a2_3, .string a2_4] 29 (0, 0)) (by (with_reducible repeat (first | refine blk_drewN ?_ _ | refine blk_drew ?_ | refine blk_alloc ?_ _)); refine blk_far ?_ NB151_150.out _; (with_reducible repeat (first | refine blk_drewN ?_ _ | refine blk_drew ?_ | refine blk_alloc ?_ _)); refine blk_far ?_ NB151_150.out _; (with_reducible repeat (first | refine blk_drewN ?_ _ | refine blk_drew ?_ | refine blk_alloc ?_ _)); refine blk_far ?_ NB151_150.out _; (with_reducible repeat (first | refine blk_drewN ?_ _ | refine blk_drew ?_ | refine blk_alloc ?_ _)); refine blk_far ?_ NB151_150.out _; (with_reducible repeat (first | refine blk_drewN ?_ _ | refine blk_drew ?_ | refine blk_alloc ?_ _)); refine blk_far ?_ NB151_150.out _; (with_reducible repeat (first | refine blk_drewN ?_ _ | refine blk_drew ?_ | refine blk_alloc ?_ _)); refine blk_far ?_ NB151_150.out _; (with_reducible repeat (first | refine blk_drewN ?_ _ | refine blk_drew ?_ | refine blk_alloc ?_ _)); exact BK151.out) hb); have n2_ := Aside0.mk (below_step (by repeat (first | (with_reducible first | exact HB.out | apply below_alloc | apply pw_below_drewN | apply below_drew1 | refine below_set ?_ GE150.out | refine below_set ?_ GE151.out) | exact HB.out)) hb); clear BK150; clear BK151; clear HB; have BK150 := n0_; have BK151 := n1_; have HB := n2_; clear n0_ n1_ n2_; (try clear hb); (try clear hb2); (try clear hk); (try clear hi); have hcz17_0 : w16.cell? ⟨gb151, 0, none⟩ = some (.int .u64 a2_0) := (blk_cell BK151.out 0).trans rfl; have hcz17_1 : w16.cell? ⟨gb151, 1, none⟩ = some (.int .u64 a2_1) := (blk_cell BK151.out 1).trans rfl; have hcz17_2 : w16.cell? ⟨gb151, 2, none⟩ = some (.int .u64 a2_2) := (blk_cell BK151.out 2).trans rfl; have hcz17_3 : w16.cell? ⟨gb151, 3, none⟩ = some (.string a2_3) := (blk_cell BK151.out 3).trans rfl; have hcz17_4 : w16.cell? ⟨gb151, 4, none⟩ = some (.string a2_4) := (blk_cell BK151.out 4).trans rfl; have hfz17_0 := blk_frozen BK151.out 0; have hfz17_1 := blk_frozen BK151.out 1; have hfz17_2 := blk_frozen BK151.out 2; have hfz17_3 := blk_frozen BK151.out 3; have hfz17_4 := blk_frozen BK151.out 4) | ((with_reducible refine gate_dst (N := 14) rfl ?_); (try (refine gate_guard (by rfl) ?_; dsimp only)); refine Kd.R_lit k29 _ 29 ?hg (N := 14) ?hd (xs := ([(⟨a2_0, a2_1, a2_2, a2_3, a2_4⟩ : S29)] : List (S29))) (inner := [.int .u64 a2_0, .int .u64 a2_1, .int .u64 a2_2, .string a2_3, .string a2_4]) (ok := fun _ => True) (okp := fun _ => True) ?hr ?hp (fun _ hk => hk) trivial (Below.refl _ _) (Nat.le_refl _) (by simp) ?_; (case hd => rfl); (case hg => rfl); (case hr => first | (go_simp; done) | (go_simp; rfl)); (case hp => exact (Reps.c5 (show Kd.M k29 _ _ _ (⟨a2_0, a2_1, a2_2, a2_3, a2_4⟩ : S29) [.int .u64 a2_0, .int .u64 a2_1, .int .u64 a2_2, .string a2_3, .string a2_4] from (k29_mkM _ _ _ (⟨a2_0, a2_1, a2_2, a2_3, a2_4⟩ : S29) )) (Reps.none _ _))); intro v160 w18 ho19 hb hg_ hnew_; clear hg_ hnew_; (first | rw [← Ny159.out] at ho19 | (simp only [Int.reduceToNat] at ho19; rw [← Ny159.out] at ho19)); have n0_ := Aside0.mk (Kd.R_lower (Kd.R_newB ho19 (g := gb151) (o := .cells #[.int .u64 a2_0, .int .u64 a2_1, .int .u64 a2_2, .string a2_3, .string a2_4] 29 (0, 0)) (by (with_reducible repeat (first | refine blk_drewN ?_ _ | refine blk_drew ?_ | refine blk_alloc ?_ _)); exact BK151.out)) (below_size (by repeat (first | (with_reducible first | exact HB.out | apply below_alloc | apply pw_below_drewN | apply below_drew1 | refine below_set ?_ GE150.out | refine below_set ?_ GE151.out) | exact HB.out)))); have n1_ := Aside0.mk (blk_below (g := gb150) (o := .cells #[.int .i64 t152, .int .i64 t153, .int .u64 t154, .int .u64 t155, .int .u64 t156, .string t157] 42 (0, 0)) (by (with_reducible repeat (first | refine blk_drewN ?_ _ | refine blk_drew ?_ | refine blk_alloc ?_ _)); exact BK150.out) hb); have n2_ := Aside0.mk (blk_below (g := gb151) (o := .cells #[.int .u64 a2_0, .int .u64 a2_1, .int .u64 a2_2, .string a2_3, .string a2_4] 29 (0, 0)) (by (with_reducible repeat (first | refine blk_drewN ?_ _ | refine blk_drew ?_ | refine blk_alloc ?_ _)); exact BK151.out) hb); have n3_ := Aside0.mk (below_step (by repeat (first | (with_reducible first | exact HB.out | apply below_alloc | apply pw_below_drewN | apply below_drew1 | refine below_set ?_ GE150.out | refine below_set ?_ GE151.out) | exact HB.out)) hb); clear BK150; clear BK151; clear HB; have HO161 := n0_; have BK150 := n1_; have BK151 := n2_; have HB := n3_; clear n0_ n1_ n2_ n3_; clear hb ho19; obtain ⟨Ao20, co20, eo20⟩ := Kd.R_slice HO161.out; subst eo20) | (go_at_call 26; (with_reducible refine (laws_svGood.calls k _ _ y159 true _ ?side1 ?side2 A7.out).mono ?_); (case side1 => repeat (first | exact (Kd.R_reads' HO161.out).2.2 | (with_reducible refine Kd.C_alloc ?_ _) | (with_reducible refine Kd.C_drewN ?_ _) | (with_reducible refine Kd.C_drew ?_))); (case side2 => exact (Kd.R_reads' HO161.out).2.1); rintro e w21 ⟨rfl, hb⟩; have n0_ := Aside0.mk (Kd.R_below (by (with_reducible repeat (first | apply Kd.R_alloc | apply Kd.R_drewN | apply Kd.R_drew)); exact HO161.out) hb); have n1_ := Aside0.mk (blk_below (g := gb150) (o := .cells #[.int .i64 t152, .int .i64 t153, .int .u64 t154, .int .u64 t155, .int .u64 t156, .string t157] 42 (0, 0)) (by (with_reducible repeat (first | refine blk_drewN ?_ _ | refine blk_drew ?_ | refine blk_alloc ?_ _)); exact BK150.out) hb); have n2_ := Aside0.mk (blk_below (g := gb151) (o := .cells #[.int .u64 a2_0, .int .u64 a2_1, .int .u64 a2_2, .string a2_3, .string a2_4] 29 (0, 0)) (by (with_reducible repeat (first | refine blk_drewN ?_ _ | refine blk_drew ?_ | refine blk_alloc ?_ _)); exact BK151.out) hb); have n3_ := Aside0.mk (below_step (by repeat (first | (with_reducible first | exact HB.out | apply below_alloc | apply pw_below_drewN | apply below_drew1 | refine below_set ?_ GE150.out | refine below_set ?_ GE151.out) | exact HB.out)) hb); clear HO161; clear BK150; clear BK151; clear HB; have HO161 := n0_; have BK150 := n1_; have BK151 := n2_; have HB := n3_; clear n0_ n1_ n2_ n3_; (try clear hb); (try clear hb2); (try clear hk); (try clear hi); have hcz22_0 : w21.cell? ⟨gb150, 0, none⟩ = some (.int .i64 t152) := (blk_cell BK150.out 0).trans rfl; have hcz22_1 : w21.cell? ⟨gb150, 1, none⟩ = some (.int .i64 t153) := (blk_cell BK150.out 1).trans rfl; have hcz22_2 : w21.cell? ⟨gb150, 2, none⟩ = some (.int .u64 t154) := (blk_cell BK150.out 2).trans rfl; have hcz22_3 : w21.cell? ⟨gb150, 3, none⟩ = some (.int .u64 t155) := (blk_cell BK150.out 3).trans rfl; have hcz22_4 : w21.cell? ⟨gb150, 4, none⟩ = some (.int .u64 t156) := (blk_cell BK150.out 4).trans rfl; have hcz22_5 : w21.cell? ⟨gb150, 5, none⟩ = some (.string t157) := (blk_cell BK150.out 5).trans rfl; have hfz22_0 := blk_frozen BK150.out 0; have hfz22_1 := blk_frozen BK150.out 1; have hfz22_2 := blk_frozen BK150.out 2; have hfz22_3 := blk_frozen BK150.out 3; have hfz22_4 := blk_frozen BK150.out 4; have hfz22_5 := blk_frozen BK150.out 5; have hcz23_0 : w21.cell? ⟨gb151, 0, none⟩ = some (.int .u64 a2_0) := (blk_cell BK151.out 0).trans rfl; have hcz23_1 : w21.cell? ⟨gb151, 1, none⟩ = some (.int .u64 a2_1) := (blk_cell BK151.out 1).trans rfl; have hcz23_2 : w21.cell? ⟨gb151, 2, none⟩ = some (.int .u64 a2_2) := (blk_cell BK151.out 2).trans rfl; have hcz23_3 : w21.cell? ⟨gb151, 3, none⟩ = some (.string a2_3) := (blk_cell BK151.out 3).trans rfl; have hcz23_4 : w21.cell? ⟨gb151, 4, none⟩ = some (.string a2_4) := (blk_cell BK151.out 4).trans rfl; have hfz23_0 := blk_frozen BK151.out 0; have hfz23_1 := blk_frozen BK151.out 1; have hfz23_2 := blk_frozen BK151.out 2; have hfz23_3 := blk_frozen BK151.out 3; have hfz23_4 := blk_frozen BK151.out 4) | (go_at_call 92; (with_reducible refine (spec_Spoken.calls k t152 t153 t154 t155 t156 t157 a2_0 a2_1 a2_2 a2_3 a2_4 t163 _ A9.out).mono ?_); rintro e w24 ⟨rfl, hb⟩; have n0_ := Aside0.mk (Kd.R_below (by (with_reducible repeat (first | apply Kd.R_alloc | apply Kd.R_drewN | apply Kd.R_drew)); exact HO161.out) hb); have n1_ := Aside0.mk (blk_below (g := gb150) (o := .cells #[.int .i64 t152, .int .i64 t153, .int .u64 t154, .int .u64 t155, .int .u64 t156, .string t157] 42 (0, 0)) (by (with_reducible repeat (first | refine blk_drewN ?_ _ | refine blk_drew ?_ | refine blk_alloc ?_ _)); exact BK150.out) hb); have n2_ := Aside0.mk (blk_below (g := gb151) (o := .cells #[.int .u64 a2_0, .int .u64 a2_1, .int .u64 a2_2, .string a2_3, .string a2_4] 29 (0, 0)) (by (with_reducible repeat (first | refine blk_drewN ?_ _ | refine blk_drew ?_ | refine blk_alloc ?_ _)); exact BK151.out) hb); have n3_ := Aside0.mk (below_step (by repeat (first | (with_reducible first | exact HB.out | apply below_alloc | apply pw_below_drewN | apply below_drew1 | refine below_set ?_ GE150.out | refine below_set ?_ GE151.out) | exact HB.out)) hb); clear HO161; clear BK150; clear BK151; clear HB; have HO161 := n0_; have BK150 := n1_; have BK151 := n2_; have HB := n3_; clear n0_ n1_ n2_ n3_; (try clear hb); (try clear hb2); (try clear hk); (try clear hi)))
      go_ret
      exact ⟨by first | rfl | (simp [errW_none, errW_some] <;> rfl) | (simp [*, errW_none, errW_some] <;> rfl), by repeat (first | (with_reducible first | exact HB.out | apply below_alloc | apply pw_below_drewN | apply below_drew1 | refine below_set ?_ GE150.out | refine below_set ?_ GE151.out) | exact HB.out)⟩
    · replace c8 := Bool.eq_false_iff.mpr c8
      subst c8
      have H1 : (some false) = some r := by rw [if_neg (show ¬ (false = true) by decide)] at H; exact H
      clear H
      have H := H1
      clear H1
      obtain rfl := Option.some.inj H
      go_enter Tryd.func37, Tryd.ntmps37
      go_wp2_with (first | ((with_reducible refine gate_dst (N := 3) rfl ?_); (try (refine gate_guard (by rfl) ?_; dsimp only)); refine box_event ?hg (N := 3) ?hd (cs := #[.int .i64 a0_0, .int .i64 a0_1, .int .u64 a0_2, .int .u64 a0_3, .int .u64 a0_4, .string a0_5]) (t := 42) ?hr ?_; (case hd => rfl); (case hg => rfl); (case hr => first | (go_simp; done) | (go_simp; rfl)); intro gb150 hg w25 hbox hb; have n0_ := Aside0.mk (below_step (by repeat (first | (with_reducible first | exact HB.out | apply below_alloc | apply pw_below_drewN | apply below_drew1) | exact HB.out)) hb); have n1_ := Aside0.mk (hbox); have n2_ := Aside0.mk ((by rw [hg]; exact (below_size (by repeat (first | (with_reducible first | exact HB.out | apply below_alloc | apply pw_below_drewN | apply below_drew1) | exact HB.out))) : w.heap.size ≤ gb150)); have n3_ := Aside0.mk ((by rw [hg]; exact (below_size (by repeat (first | (with_reducible first | exact HB.out | apply below_alloc | apply pw_below_drewN | apply below_drew1) | exact HB.out))) : w.heap.size ≤ gb150)); clear HB; have HB := n0_; have BK150 := n1_; have GW150 := n2_; have GE150 := n3_; clear n0_ n1_ n2_ n3_; clear hb hbox hg) | ((with_reducible refine gate_dst (N := 5) rfl ?_); (try (refine gate_guard (by rfl) ?_; dsimp only)); refine box_event ?hg (N := 5) ?hd (cs := #[.int .u64 a2_0, .int .u64 a2_1, .int .u64 a2_2, .string a2_3, .string a2_4]) (t := 29) ?hr ?_; (case hd => rfl); (case hg => rfl); (case hr => first | (go_simp; done) | (go_simp; rfl)); intro gb151 hg w26 hbox hb; have n0_ := Aside0.mk (blk_below (g := gb150) (o := .cells #[.int .i64 a0_0, .int .i64 a0_1, .int .u64 a0_2, .int .u64 a0_3, .int .u64 a0_4, .string a0_5] 42 (0, 0)) (by (with_reducible repeat (first | refine blk_drewN ?_ _ | refine blk_drew ?_ | refine blk_alloc ?_ _)); exact BK150.out) hb); have n1_ := Aside0.mk (below_step (by repeat (first | (with_reducible first | exact HB.out | apply below_alloc | apply pw_below_drewN | apply below_drew1 | refine below_set ?_ GE150.out) | exact HB.out)) hb); have n2_ := Aside0.mk (hbox); have n3_ := Aside0.mk ((by rw [hg]; exact (below_size (by repeat (first | (with_reducible first | exact HB.out | apply below_alloc | apply pw_below_drewN | apply below_drew1 | refine below_set ?_ GE150.out) | exact HB.out))) : w.heap.size ≤ gb151)); have n4_ := Aside0.mk ((by rw [hg]; exact (below_size (by repeat (first | (with_reducible first | exact HB.out | apply below_alloc | apply pw_below_drewN | apply below_drew1 | refine below_set ?_ GE150.out) | exact HB.out))) : w.heap.size ≤ gb151)); have n5_ := Aside0.mk ((by rw [hg]; exact Nat.ne_of_lt (blk_lt (g := gb150) (o := .cells #[.int .i64 a0_0, .int .i64 a0_1, .int .u64 a0_2, .int .u64 a0_3, .int .u64 a0_4, .string a0_5] 42 (0, 0)) (by (with_reducible repeat (first | refine blk_drewN ?_ _ | refine blk_drew ?_ | refine blk_alloc ?_ _)); exact BK150.out)) : gb150 ≠ gb151)); have n6_ := Aside0.mk ((by rw [hg]; exact Nat.ne_of_gt (blk_lt (g := gb150) (o := .cells #[.int .i64 a0_0, .int .i64 a0_1, .int .u64 a0_2, .int .u64 a0_3, .int .u64 a0_4, .string a0_5] 42 (0, 0)) (by (with_reducible repeat (first | refine blk_drewN ?_ _ | refine blk_drew ?_ | refine blk_alloc ?_ _)); exact BK150.out)) : gb151 ≠ gb150)); clear BK150; clear HB; have BK150 := n0_; have HB := n1_; have BK151 := n2_; have GW151 := n3_; have GE151 := n4_; have NB150_151 := n5_; have NB151_150 := n6_; clear n0_ n1_ n2_ n3_ n4_ n5_ n6_; clear hb hbox hg; have hnb27 := NB150_151.out; have hnc27 := NB151_150.out; have hcz28_0 : w26.cell? ⟨gb150, 0, none⟩ = some (.int .i64 a0_0) := (blk_cell BK150.out 0).trans rfl; have hcz28_1 : w26.cell? ⟨gb150, 1, none⟩ = some (.int .i64 a0_1) := (blk_cell BK150.out 1).trans rfl; have hcz28_2 : w26.cell? ⟨gb150, 2, none⟩ = some (.int .u64 a0_2) := (blk_cell BK150.out 2).trans rfl; have hcz28_3 : w26.cell? ⟨gb150, 3, none⟩ = some (.int .u64 a0_3) := (blk_cell BK150.out 3).trans rfl; have hcz28_4 : w26.cell? ⟨gb150, 4, none⟩ = some (.int .u64 a0_4) := (blk_cell BK150.out 4).trans rfl; have hcz28_5 : w26.cell? ⟨gb150, 5, none⟩ = some (.string a0_5) := (blk_cell BK150.out 5).trans rfl; have hfz28_0 := blk_frozen BK150.out 0; have hfz28_1 := blk_frozen BK150.out 1; have hfz28_2 := blk_frozen BK150.out 2; have hfz28_3 := blk_frozen BK150.out 3; have hfz28_4 := blk_frozen BK150.out 4; have hfz28_5 := blk_frozen BK150.out 5) | ((with_reducible refine gate_callee (f := 91) rfl ?_); refine goesL_ (some 9) rfl rfl Tryd.func91 (by kernel_rfl) rfl #[.agg #[.int .i64 a0_0, .int .i64 a0_1, .int .u64 a0_2, .int .u64 a0_3, .int .u64 a0_4, .string a0_5], .int .i64 a1] rfl (by (try simp only [List.map_toArray, List.map_cons, List.map_nil]); first | done | rfl | (simp only [List.length_drop, List.length_take]; rfl)) ?_; (with_reducible refine (laws_snAs.calls a0_0 a0_1 a0_2 a0_3 a0_4 a0_5 a1 t152 t153 t154 t155 t156 t157 _ A4.out).mono ?_); rintro e w29 ⟨rfl, hb⟩; refine ⟨_, rfl, ?_⟩; have n0_ := Aside0.mk (blk_below (g := gb150) (o := .cells #[.int .i64 a0_0, .int .i64 a0_1, .int .u64 a0_2, .int .u64 a0_3, .int .u64 a0_4, .string a0_5] 42 (0, 0)) (by (with_reducible repeat (first | refine blk_drewN ?_ _ | refine blk_drew ?_ | refine blk_alloc ?_ _)); exact BK150.out) hb); have n1_ := Aside0.mk (blk_below (g := gb151) (o := .cells #[.int .u64 a2_0, .int .u64 a2_1, .int .u64 a2_2, .string a2_3, .string a2_4] 29 (0, 0)) (by (with_reducible repeat (first | refine blk_drewN ?_ _ | refine blk_drew ?_ | refine blk_alloc ?_ _)); exact BK151.out) hb); have n2_ := Aside0.mk (below_step (by repeat (first | (with_reducible first | exact HB.out | apply below_alloc | apply pw_below_drewN | apply below_drew1 | refine below_set ?_ GE150.out | refine below_set ?_ GE151.out) | exact HB.out)) hb); clear BK150; clear BK151; clear HB; have BK150 := n0_; have BK151 := n1_; have HB := n2_; clear n0_ n1_ n2_; (try clear hb); (try clear hb2); (try clear hk); (try clear hi); have hcz30_0 : w29.cell? ⟨gb150, 0, none⟩ = some (.int .i64 a0_0) := (blk_cell BK150.out 0).trans rfl; have hcz30_1 : w29.cell? ⟨gb150, 1, none⟩ = some (.int .i64 a0_1) := (blk_cell BK150.out 1).trans rfl; have hcz30_2 : w29.cell? ⟨gb150, 2, none⟩ = some (.int .u64 a0_2) := (blk_cell BK150.out 2).trans rfl; have hcz30_3 : w29.cell? ⟨gb150, 3, none⟩ = some (.int .u64 a0_3) := (blk_cell BK150.out 3).trans rfl; have hcz30_4 : w29.cell? ⟨gb150, 4, none⟩ = some (.int .u64 a0_4) := (blk_cell BK150.out 4).trans rfl; have hcz30_5 : w29.cell? ⟨gb150, 5, none⟩ = some (.string a0_5) := (blk_cell BK150.out 5).trans rfl; have hfz30_0 := blk_frozen BK150.out 0; have hfz30_1 := blk_frozen BK150.out 1; have hfz30_2 := blk_frozen BK150.out 2; have hfz30_3 := blk_frozen BK150.out 3; have hfz30_4 := blk_frozen BK150.out 4; have hfz30_5 := blk_frozen BK150.out 5) | ((with_reducible refine gate_callee (f := 63) rfl ?_); refine goesL_ (some 11) rfl rfl Tryd.func63 (by kernel_rfl) rfl #[.agg #[.int .i64 t152, .int .i64 t153, .int .u64 t154, .int .u64 t155, .int .u64 t156, .string t157]] rfl (by (try simp only [List.map_toArray, List.map_cons, List.map_nil]); first | done | rfl | (simp only [List.length_drop, List.length_take]; rfl)) ?_; (with_reducible refine (spec_GoodTerm.calls k t152 t153 t154 t155 t156 t157 true _ A5.out).mono ?_); rintro e w31 ⟨rfl, hb⟩; refine ⟨_, rfl, ?_⟩; have n0_ := Aside0.mk (blk_below (g := gb150) (o := .cells #[.int .i64 t152, .int .i64 t153, .int .u64 t154, .int .u64 t155, .int .u64 t156, .string t157] 42 (0, 0)) (by (with_reducible repeat (first | refine blk_drewN ?_ _ | refine blk_drew ?_ | refine blk_alloc ?_ _)); refine blk_put (cs := #[.int .i64 t152, .int .i64 t153, .int .u64 t154, .int .u64 t155, .int .u64 t156, .string a0_5]) ?_ 5 _ rfl; (with_reducible repeat (first | refine blk_drewN ?_ _ | refine blk_drew ?_ | refine blk_alloc ?_ _)); refine blk_put (cs := #[.int .i64 t152, .int .i64 t153, .int .u64 t154, .int .u64 t155, .int .u64 a0_4, .string a0_5]) ?_ 4 _ rfl; (with_reducible repeat (first | refine blk_drewN ?_ _ | refine blk_drew ?_ | refine blk_alloc ?_ _)); refine blk_put (cs := #[.int .i64 t152, .int .i64 t153, .int .u64 t154, .int .u64 a0_3, .int .u64 a0_4, .string a0_5]) ?_ 3 _ rfl; (with_reducible repeat (first | refine blk_drewN ?_ _ | refine blk_drew ?_ | refine blk_alloc ?_ _)); refine blk_put (cs := #[.int .i64 t152, .int .i64 t153, .int .u64 a0_2, .int .u64 a0_3, .int .u64 a0_4, .string a0_5]) ?_ 2 _ rfl; (with_reducible repeat (first | refine blk_drewN ?_ _ | refine blk_drew ?_ | refine blk_alloc ?_ _)); refine blk_put (cs := #[.int .i64 t152, .int .i64 a0_1, .int .u64 a0_2, .int .u64 a0_3, .int .u64 a0_4, .string a0_5]) ?_ 1 _ rfl; (with_reducible repeat (first | refine blk_drewN ?_ _ | refine blk_drew ?_ | refine blk_alloc ?_ _)); refine blk_put (cs := #[.int .i64 a0_0, .int .i64 a0_1, .int .u64 a0_2, .int .u64 a0_3, .int .u64 a0_4, .string a0_5]) ?_ 0 _ rfl; (with_reducible repeat (first | refine blk_drewN ?_ _ | refine blk_drew ?_ | refine blk_alloc ?_ _)); exact BK150.out) hb); have n1_ := Aside0.mk (blk_below (g := gb151) (o := .cells #[.int .u64 a2_0, .int .u64 a2_1, .int .u64 a2_2, .string a2_3, .string a2_4] 29 (0, 0)) (by (with_reducible repeat (first | refine blk_drewN ?_ _ | refine blk_drew ?_ | refine blk_alloc ?_ _)); refine blk_far ?_ NB151_150.out _; (with_reducible repeat (first | refine blk_drewN ?_ _ | refine blk_drew ?_ | refine blk_alloc ?_ _)); refine blk_far ?_ NB151_150.out _; (with_reducible repeat (first | refine blk_drewN ?_ _ | refine blk_drew ?_ | refine blk_alloc ?_ _)); refine blk_far ?_ NB151_150.out _; (with_reducible repeat (first | refine blk_drewN ?_ _ | refine blk_drew ?_ | refine blk_alloc ?_ _)); refine blk_far ?_ NB151_150.out _; (with_reducible repeat (first | refine blk_drewN ?_ _ | refine blk_drew ?_ | refine blk_alloc ?_ _)); refine blk_far ?_ NB151_150.out _; (with_reducible repeat (first | refine blk_drewN ?_ _ | refine blk_drew ?_ | refine blk_alloc ?_ _)); refine blk_far ?_ NB151_150.out _; (with_reducible repeat (first | refine blk_drewN ?_ _ | refine blk_drew ?_ | refine blk_alloc ?_ _)); exact BK151.out) hb); have n2_ := Aside0.mk (below_step (by repeat (first | (with_reducible first | exact HB.out | apply below_alloc | apply pw_below_drewN | apply below_drew1 | refine below_set ?_ GE150.out | refine below_set ?_ GE151.out) | exact HB.out)) hb); clear BK150; clear BK151; clear HB; have BK150 := n0_; have BK151 := n1_; have HB := n2_; clear n0_ n1_ n2_; (try clear hb); (try clear hb2); (try clear hk); (try clear hi); have hcz32_0 : w31.cell? ⟨gb151, 0, none⟩ = some (.int .u64 a2_0) := (blk_cell BK151.out 0).trans rfl; have hcz32_1 : w31.cell? ⟨gb151, 1, none⟩ = some (.int .u64 a2_1) := (blk_cell BK151.out 1).trans rfl; have hcz32_2 : w31.cell? ⟨gb151, 2, none⟩ = some (.int .u64 a2_2) := (blk_cell BK151.out 2).trans rfl; have hcz32_3 : w31.cell? ⟨gb151, 3, none⟩ = some (.string a2_3) := (blk_cell BK151.out 3).trans rfl; have hcz32_4 : w31.cell? ⟨gb151, 4, none⟩ = some (.string a2_4) := (blk_cell BK151.out 4).trans rfl; have hfz32_0 := blk_frozen BK151.out 0; have hfz32_1 := blk_frozen BK151.out 1; have hfz32_2 := blk_frozen BK151.out 2; have hfz32_3 := blk_frozen BK151.out 3; have hfz32_4 := blk_frozen BK151.out 4) | ((with_reducible refine gate_dst (N := 14) rfl ?_); (try (refine gate_guard (by rfl) ?_; dsimp only)); refine Kd.R_lit k29 _ 29 ?hg (N := 14) ?hd (xs := ([(⟨a2_0, a2_1, a2_2, a2_3, a2_4⟩ : S29)] : List (S29))) (inner := [.int .u64 a2_0, .int .u64 a2_1, .int .u64 a2_2, .string a2_3, .string a2_4]) (ok := fun _ => True) (okp := fun _ => True) ?hr ?hp (fun _ hk => hk) trivial (Below.refl _ _) (Nat.le_refl _) (by simp) ?_; (case hd => rfl); (case hg => rfl); (case hr => first | (go_simp; done) | (go_simp; rfl)); (case hp => exact (Reps.c5 (show Kd.M k29 _ _ _ (⟨a2_0, a2_1, a2_2, a2_3, a2_4⟩ : S29) [.int .u64 a2_0, .int .u64 a2_1, .int .u64 a2_2, .string a2_3, .string a2_4] from (k29_mkM _ _ _ (⟨a2_0, a2_1, a2_2, a2_3, a2_4⟩ : S29) )) (Reps.none _ _))); intro v160 w33 ho34 hb hg_ hnew_; clear hg_ hnew_; (first | rw [← Ny159.out] at ho34 | (simp only [Int.reduceToNat] at ho34; rw [← Ny159.out] at ho34)); have n0_ := Aside0.mk (Kd.R_lower (Kd.R_newB ho34 (g := gb151) (o := .cells #[.int .u64 a2_0, .int .u64 a2_1, .int .u64 a2_2, .string a2_3, .string a2_4] 29 (0, 0)) (by (with_reducible repeat (first | refine blk_drewN ?_ _ | refine blk_drew ?_ | refine blk_alloc ?_ _)); exact BK151.out)) (below_size (by repeat (first | (with_reducible first | exact HB.out | apply below_alloc | apply pw_below_drewN | apply below_drew1 | refine below_set ?_ GE150.out | refine below_set ?_ GE151.out) | exact HB.out)))); have n1_ := Aside0.mk (blk_below (g := gb150) (o := .cells #[.int .i64 t152, .int .i64 t153, .int .u64 t154, .int .u64 t155, .int .u64 t156, .string t157] 42 (0, 0)) (by (with_reducible repeat (first | refine blk_drewN ?_ _ | refine blk_drew ?_ | refine blk_alloc ?_ _)); exact BK150.out) hb); have n2_ := Aside0.mk (blk_below (g := gb151) (o := .cells #[.int .u64 a2_0, .int .u64 a2_1, .int .u64 a2_2, .string a2_3, .string a2_4] 29 (0, 0)) (by (with_reducible repeat (first | refine blk_drewN ?_ _ | refine blk_drew ?_ | refine blk_alloc ?_ _)); exact BK151.out) hb); have n3_ := Aside0.mk (below_step (by repeat (first | (with_reducible first | exact HB.out | apply below_alloc | apply pw_below_drewN | apply below_drew1 | refine below_set ?_ GE150.out | refine below_set ?_ GE151.out) | exact HB.out)) hb); clear BK150; clear BK151; clear HB; have HO161 := n0_; have BK150 := n1_; have BK151 := n2_; have HB := n3_; clear n0_ n1_ n2_ n3_; clear hb ho34; obtain ⟨Ao35, co35, eo35⟩ := Kd.R_slice HO161.out; subst eo35) | (go_at_call 26; (with_reducible refine (laws_svGood.calls k _ _ y159 false _ ?side1 ?side2 A7.out).mono ?_); (case side1 => repeat (first | exact (Kd.R_reads' HO161.out).2.2 | (with_reducible refine Kd.C_alloc ?_ _) | (with_reducible refine Kd.C_drewN ?_ _) | (with_reducible refine Kd.C_drew ?_))); (case side2 => exact (Kd.R_reads' HO161.out).2.1); rintro e w36 ⟨rfl, hb⟩; have n0_ := Aside0.mk (Kd.R_below (by (with_reducible repeat (first | apply Kd.R_alloc | apply Kd.R_drewN | apply Kd.R_drew)); exact HO161.out) hb); have n1_ := Aside0.mk (blk_below (g := gb150) (o := .cells #[.int .i64 t152, .int .i64 t153, .int .u64 t154, .int .u64 t155, .int .u64 t156, .string t157] 42 (0, 0)) (by (with_reducible repeat (first | refine blk_drewN ?_ _ | refine blk_drew ?_ | refine blk_alloc ?_ _)); exact BK150.out) hb); have n2_ := Aside0.mk (blk_below (g := gb151) (o := .cells #[.int .u64 a2_0, .int .u64 a2_1, .int .u64 a2_2, .string a2_3, .string a2_4] 29 (0, 0)) (by (with_reducible repeat (first | refine blk_drewN ?_ _ | refine blk_drew ?_ | refine blk_alloc ?_ _)); exact BK151.out) hb); have n3_ := Aside0.mk (below_step (by repeat (first | (with_reducible first | exact HB.out | apply below_alloc | apply pw_below_drewN | apply below_drew1 | refine below_set ?_ GE150.out | refine below_set ?_ GE151.out) | exact HB.out)) hb); clear HO161; clear BK150; clear BK151; clear HB; have HO161 := n0_; have BK150 := n1_; have BK151 := n2_; have HB := n3_; clear n0_ n1_ n2_ n3_; (try clear hb); (try clear hb2); (try clear hk); (try clear hi)))
      go_ret
      exact ⟨by first | rfl | (simp [errW_none, errW_some] <;> rfl) | (simp [*, errW_none, errW_some] <;> rfl), by repeat (first | (with_reducible first | exact HB.out | apply below_alloc | apply pw_below_drewN | apply below_drew1 | refine below_set ?_ GE150.out | refine below_set ?_ GE151.out) | exact HB.out)⟩
  · replace c6 := Bool.eq_false_iff.mpr c6
    subst c6
    have H1 : (some false) = some r := by rw [if_neg (show ¬ (false = true) by decide)] at H; exact H
    clear H
    have H := H1
    clear H1
    obtain rfl := Option.some.inj H
    go_enter Tryd.func37, Tryd.ntmps37
    go_wp2_with (first | ((with_reducible refine gate_dst (N := 3) rfl ?_); (try (refine gate_guard (by rfl) ?_; dsimp only)); refine box_event ?hg (N := 3) ?hd (cs := #[.int .i64 a0_0, .int .i64 a0_1, .int .u64 a0_2, .int .u64 a0_3, .int .u64 a0_4, .string a0_5]) (t := 42) ?hr ?_; (case hd => rfl); (case hg => rfl); (case hr => first | (go_simp; done) | (go_simp; rfl)); intro gb150 hg w37 hbox hb; have n0_ := Aside0.mk (below_step (by repeat (first | (with_reducible first | exact HB.out | apply below_alloc | apply pw_below_drewN | apply below_drew1) | exact HB.out)) hb); have n1_ := Aside0.mk (hbox); have n2_ := Aside0.mk ((by rw [hg]; exact (below_size (by repeat (first | (with_reducible first | exact HB.out | apply below_alloc | apply pw_below_drewN | apply below_drew1) | exact HB.out))) : w.heap.size ≤ gb150)); have n3_ := Aside0.mk ((by rw [hg]; exact (below_size (by repeat (first | (with_reducible first | exact HB.out | apply below_alloc | apply pw_below_drewN | apply below_drew1) | exact HB.out))) : w.heap.size ≤ gb150)); clear HB; have HB := n0_; have BK150 := n1_; have GW150 := n2_; have GE150 := n3_; clear n0_ n1_ n2_ n3_; clear hb hbox hg) | ((with_reducible refine gate_dst (N := 5) rfl ?_); (try (refine gate_guard (by rfl) ?_; dsimp only)); refine box_event ?hg (N := 5) ?hd (cs := #[.int .u64 a2_0, .int .u64 a2_1, .int .u64 a2_2, .string a2_3, .string a2_4]) (t := 29) ?hr ?_; (case hd => rfl); (case hg => rfl); (case hr => first | (go_simp; done) | (go_simp; rfl)); intro gb151 hg w38 hbox hb; have n0_ := Aside0.mk (blk_below (g := gb150) (o := .cells #[.int .i64 a0_0, .int .i64 a0_1, .int .u64 a0_2, .int .u64 a0_3, .int .u64 a0_4, .string a0_5] 42 (0, 0)) (by (with_reducible repeat (first | refine blk_drewN ?_ _ | refine blk_drew ?_ | refine blk_alloc ?_ _)); exact BK150.out) hb); have n1_ := Aside0.mk (below_step (by repeat (first | (with_reducible first | exact HB.out | apply below_alloc | apply pw_below_drewN | apply below_drew1 | refine below_set ?_ GE150.out) | exact HB.out)) hb); have n2_ := Aside0.mk (hbox); have n3_ := Aside0.mk ((by rw [hg]; exact (below_size (by repeat (first | (with_reducible first | exact HB.out | apply below_alloc | apply pw_below_drewN | apply below_drew1 | refine below_set ?_ GE150.out) | exact HB.out))) : w.heap.size ≤ gb151)); have n4_ := Aside0.mk ((by rw [hg]; exact (below_size (by repeat (first | (with_reducible first | exact HB.out | apply below_alloc | apply pw_below_drewN | apply below_drew1 | refine below_set ?_ GE150.out) | exact HB.out))) : w.heap.size ≤ gb151)); have n5_ := Aside0.mk ((by rw [hg]; exact Nat.ne_of_lt (blk_lt (g := gb150) (o := .cells #[.int .i64 a0_0, .int .i64 a0_1, .int .u64 a0_2, .int .u64 a0_3, .int .u64 a0_4, .string a0_5] 42 (0, 0)) (by (with_reducible repeat (first | refine blk_drewN ?_ _ | refine blk_drew ?_ | refine blk_alloc ?_ _)); exact BK150.out)) : gb150 ≠ gb151)); have n6_ := Aside0.mk ((by rw [hg]; exact Nat.ne_of_gt (blk_lt (g := gb150) (o := .cells #[.int .i64 a0_0, .int .i64 a0_1, .int .u64 a0_2, .int .u64 a0_3, .int .u64 a0_4, .string a0_5] 42 (0, 0)) (by (with_reducible repeat (first | refine blk_drewN ?_ _ | refine blk_drew ?_ | refine blk_alloc ?_ _)); exact BK150.out)) : gb151 ≠ gb150)); clear BK150; clear HB; have BK150 := n0_; have HB := n1_; have BK151 := n2_; have GW151 := n3_; have GE151 := n4_; have NB150_151 := n5_; have NB151_150 := n6_; clear n0_ n1_ n2_ n3_ n4_ n5_ n6_; clear hb hbox hg; have hnb39 := NB150_151.out; have hnc39 := NB151_150.out; have hcz40_0 : w38.cell? ⟨gb150, 0, none⟩ = some (.int .i64 a0_0) := (blk_cell BK150.out 0).trans rfl; have hcz40_1 : w38.cell? ⟨gb150, 1, none⟩ = some (.int .i64 a0_1) := (blk_cell BK150.out 1).trans rfl; have hcz40_2 : w38.cell? ⟨gb150, 2, none⟩ = some (.int .u64 a0_2) := (blk_cell BK150.out 2).trans rfl; have hcz40_3 : w38.cell? ⟨gb150, 3, none⟩ = some (.int .u64 a0_3) := (blk_cell BK150.out 3).trans rfl; have hcz40_4 : w38.cell? ⟨gb150, 4, none⟩ = some (.int .u64 a0_4) := (blk_cell BK150.out 4).trans rfl; have hcz40_5 : w38.cell? ⟨gb150, 5, none⟩ = some (.string a0_5) := (blk_cell BK150.out 5).trans rfl; have hfz40_0 := blk_frozen BK150.out 0; have hfz40_1 := blk_frozen BK150.out 1; have hfz40_2 := blk_frozen BK150.out 2; have hfz40_3 := blk_frozen BK150.out 3; have hfz40_4 := blk_frozen BK150.out 4; have hfz40_5 := blk_frozen BK150.out 5) | ((with_reducible refine gate_callee (f := 91) rfl ?_); refine goesL_ (some 9) rfl rfl Tryd.func91 (by kernel_rfl) rfl #[.agg #[.int .i64 a0_0, .int .i64 a0_1, .int .u64 a0_2, .int .u64 a0_3, .int .u64 a0_4, .string a0_5], .int .i64 a1] rfl (by (try simp only [List.map_toArray, List.map_cons, List.map_nil]); first | done | rfl | (simp only [List.length_drop, List.length_take]; rfl)) ?_; (with_reducible refine (laws_snAs.calls a0_0 a0_1 a0_2 a0_3 a0_4 a0_5 a1 t152 t153 t154 t155 t156 t157 _ A4.out).mono ?_); rintro e w41 ⟨rfl, hb⟩; refine ⟨_, rfl, ?_⟩; have n0_ := Aside0.mk (blk_below (g := gb150) (o := .cells #[.int .i64 a0_0, .int .i64 a0_1, .int .u64 a0_2, .int .u64 a0_3, .int .u64 a0_4, .string a0_5] 42 (0, 0)) (by (with_reducible repeat (first | refine blk_drewN ?_ _ | refine blk_drew ?_ | refine blk_alloc ?_ _)); exact BK150.out) hb); have n1_ := Aside0.mk (blk_below (g := gb151) (o := .cells #[.int .u64 a2_0, .int .u64 a2_1, .int .u64 a2_2, .string a2_3, .string a2_4] 29 (0, 0)) (by (with_reducible repeat (first | refine blk_drewN ?_ _ | refine blk_drew ?_ | refine blk_alloc ?_ _)); exact BK151.out) hb); have n2_ := Aside0.mk (below_step (by repeat (first | (with_reducible first | exact HB.out | apply below_alloc | apply pw_below_drewN | apply below_drew1 | refine below_set ?_ GE150.out | refine below_set ?_ GE151.out) | exact HB.out)) hb); clear BK150; clear BK151; clear HB; have BK150 := n0_; have BK151 := n1_; have HB := n2_; clear n0_ n1_ n2_; (try clear hb); (try clear hb2); (try clear hk); (try clear hi); have hcz42_0 : w41.cell? ⟨gb150, 0, none⟩ = some (.int .i64 a0_0) := (blk_cell BK150.out 0).trans rfl; have hcz42_1 : w41.cell? ⟨gb150, 1, none⟩ = some (.int .i64 a0_1) := (blk_cell BK150.out 1).trans rfl; have hcz42_2 : w41.cell? ⟨gb150, 2, none⟩ = some (.int .u64 a0_2) := (blk_cell BK150.out 2).trans rfl; have hcz42_3 : w41.cell? ⟨gb150, 3, none⟩ = some (.int .u64 a0_3) := (blk_cell BK150.out 3).trans rfl; have hcz42_4 : w41.cell? ⟨gb150, 4, none⟩ = some (.int .u64 a0_4) := (blk_cell BK150.out 4).trans rfl; have hcz42_5 : w41.cell? ⟨gb150, 5, none⟩ = some (.string a0_5) := (blk_cell BK150.out 5).trans rfl; have hfz42_0 := blk_frozen BK150.out 0; have hfz42_1 := blk_frozen BK150.out 1; have hfz42_2 := blk_frozen BK150.out 2; have hfz42_3 := blk_frozen BK150.out 3; have hfz42_4 := blk_frozen BK150.out 4; have hfz42_5 := blk_frozen BK150.out 5) | ((with_reducible refine gate_callee (f := 63) rfl ?_); refine goesL_ (some 11) rfl rfl Tryd.func63 (by kernel_rfl) rfl #[.agg #[.int .i64 t152, .int .i64 t153, .int .u64 t154, .int .u64 t155, .int .u64 t156, .string t157]] rfl (by (try simp only [List.map_toArray, List.map_cons, List.map_nil]); first | done | rfl | (simp only [List.length_drop, List.length_take]; rfl)) ?_; (with_reducible refine (spec_GoodTerm.calls k t152 t153 t154 t155 t156 t157 false _ A5.out).mono ?_); rintro e w43 ⟨rfl, hb⟩; refine ⟨_, rfl, ?_⟩; have n0_ := Aside0.mk (blk_below (g := gb150) (o := .cells #[.int .i64 t152, .int .i64 t153, .int .u64 t154, .int .u64 t155, .int .u64 t156, .string t157] 42 (0, 0)) (by (with_reducible repeat (first | refine blk_drewN ?_ _ | refine blk_drew ?_ | refine blk_alloc ?_ _)); refine blk_put (cs := #[.int .i64 t152, .int .i64 t153, .int .u64 t154, .int .u64 t155, .int .u64 t156, .string a0_5]) ?_ 5 _ rfl; (with_reducible repeat (first | refine blk_drewN ?_ _ | refine blk_drew ?_ | refine blk_alloc ?_ _)); refine blk_put (cs := #[.int .i64 t152, .int .i64 t153, .int .u64 t154, .int .u64 t155, .int .u64 a0_4, .string a0_5]) ?_ 4 _ rfl; (with_reducible repeat (first | refine blk_drewN ?_ _ | refine blk_drew ?_ | refine blk_alloc ?_ _)); refine blk_put (cs := #[.int .i64 t152, .int .i64 t153, .int .u64 t154, .int .u64 a0_3, .int .u64 a0_4, .string a0_5]) ?_ 3 _ rfl; (with_reducible repeat (first | refine blk_drewN ?_ _ | refine blk_drew ?_ | refine blk_alloc ?_ _)); refine blk_put (cs := #[.int .i64 t152, .int .i64 t153, .int .u64 a0_2, .int .u64 a0_3, .int .u64 a0_4, .string a0_5]) ?_ 2 _ rfl; (with_reducible repeat (first | refine blk_drewN ?_ _ | refine blk_drew ?_ | refine blk_alloc ?_ _)); refine blk_put (cs := #[.int .i64 t152, .int .i64 a0_1, .int .u64 a0_2, .int .u64 a0_3, .int .u64 a0_4, .string a0_5]) ?_ 1 _ rfl; (with_reducible repeat (first | refine blk_drewN ?_ _ | refine blk_drew ?_ | refine blk_alloc ?_ _)); refine blk_put (cs := #[.int .i64 a0_0, .int .i64 a0_1, .int .u64 a0_2, .int .u64 a0_3, .int .u64 a0_4, .string a0_5]) ?_ 0 _ rfl; (with_reducible repeat (first | refine blk_drewN ?_ _ | refine blk_drew ?_ | refine blk_alloc ?_ _)); exact BK150.out) hb); have n1_ := Aside0.mk (blk_below (g := gb151) (o := .cells #[.int .u64 a2_0, .int .u64 a2_1, .int .u64 a2_2, .string a2_3, .string a2_4] 29 (0, 0)) (by (with_reducible repeat (first | refine blk_drewN ?_ _ | refine blk_drew ?_ | refine blk_alloc ?_ _)); refine blk_far ?_ NB151_150.out _; (with_reducible repeat (first | refine blk_drewN ?_ _ | refine blk_drew ?_ | refine blk_alloc ?_ _)); refine blk_far ?_ NB151_150.out _; (with_reducible repeat (first | refine blk_drewN ?_ _ | refine blk_drew ?_ | refine blk_alloc ?_ _)); refine blk_far ?_ NB151_150.out _; (with_reducible repeat (first | refine blk_drewN ?_ _ | refine blk_drew ?_ | refine blk_alloc ?_ _)); refine blk_far ?_ NB151_150.out _; (with_reducible repeat (first | refine blk_drewN ?_ _ | refine blk_drew ?_ | refine blk_alloc ?_ _)); refine blk_far ?_ NB151_150.out _; (with_reducible repeat (first | refine blk_drewN ?_ _ | refine blk_drew ?_ | refine blk_alloc ?_ _)); refine blk_far ?_ NB151_150.out _; (with_reducible repeat (first | refine blk_drewN ?_ _ | refine blk_drew ?_ | refine blk_alloc ?_ _)); exact BK151.out) hb); have n2_ := Aside0.mk (below_step (by repeat (first | (with_reducible first | exact HB.out | apply below_alloc | apply pw_below_drewN | apply below_drew1 | refine below_set ?_ GE150.out | refine below_set ?_ GE151.out) | exact HB.out)) hb); clear BK150; clear BK151; clear HB; have BK150 := n0_; have BK151 := n1_; have HB := n2_; clear n0_ n1_ n2_; (try clear hb); (try clear hb2); (try clear hk); (try clear hi)))
    go_ret
    exact ⟨by first | rfl | (simp [errW_none, errW_some] <;> rfl) | (simp [*, errW_none, errW_some] <;> rfl), by repeat (first | (with_reducible first | exact HB.out | apply below_alloc | apply pw_below_drewN | apply below_drew1 | refine below_set ?_ GE150.out | refine below_set ?_ GE151.out) | exact HB.out)⟩

/-! ### spec_order: function 154 -/
def spec_order.f (a0 : Int) (a1 : Int) : Option (Int) := if a0 < a1 then (some (-1)) else (if a0 > a1 then (some 1) else (some 0))
set_option maxHeartbeats 8000000 in
set_option maxRecDepth 100000 in
theorem spec_order.calls (a0 : Int) (a1 : Int) (r : Int) (w : World) (h : spec_order.f a0 a1 = some r) :
    Calls Tryd.prog 154 #[.int .u64 a0, .int .u64 a1] w fun e w' => e = .returned (.int .i64 r) ∧ Drawn0 w w' := by
  have H : (if a0 < a1 then (some (-1)) else (if a0 > a1 then (some 1) else (some 0))) = some r := h
  clear h
  by_cases c3 : a0 < a1
  · rw [if_pos c3] at H
    have c3b0 : decide (a0 < a1) = true := decide_eq_true c3
    clear c3
    obtain rfl := Option.some.inj H
    go_enter Tryd.func154, Tryd.ntmps154
    go_wp2
    go_ret
    exact ⟨by first | rfl | (simp; done) | (simp [*]; done) | (simp [bne]; done) | (simp [bne, List.isEmpty_iff]; done) | (cases a0.toList <;> simp; done), by repeat (first | exact Drawn0.refl _ | apply Drawn0.step)⟩
  · rw [if_neg c3] at H
    have c3b0 : decide (a0 < a1) = false := decide_eq_false c3
    clear c3
    by_cases c4 : a0 > a1
    · rw [if_pos c4] at H
      have c4b0 : decide (a1 < a0) = true := decide_eq_true c4
      clear c4
      obtain rfl := Option.some.inj H
      go_enter Tryd.func154, Tryd.ntmps154
      go_wp2
      go_ret
      exact ⟨by first | rfl | (simp; done) | (simp [*]; done) | (simp [bne]; done) | (simp [bne, List.isEmpty_iff]; done) | (cases a0.toList <;> simp; done), by repeat (first | exact Drawn0.refl _ | apply Drawn0.step)⟩
    · rw [if_neg c4] at H
      have c4b0 : decide (a1 < a0) = false := decide_eq_false c4
      clear c4
      obtain rfl := Option.some.inj H
      go_enter Tryd.func154, Tryd.ntmps154
      go_wp2
      go_ret
      exact ⟨by first | rfl | (simp; done) | (simp [*]; done) | (simp [bne]; done) | (simp [bne, List.isEmpty_iff]; done) | (cases a0.toList <;> simp; done), by repeat (first | exact Drawn0.refl _ | apply Drawn0.step)⟩

/-! ### spec_ComparePart: function 155 -/
def spec_ComparePart.j0 : Nat → ByteArray → ByteArray → Bool → Option (Int)
  | 0, _, _, _ => none
  | k + 1, x0, x1, x9 => if x9 = true then ((spec_order.f (IntKind.u64.wrap ((x0.size : Int))) (IntKind.u64.wrap ((x1.size : Int)))).bind fun t166 => (some t166)) else ((spec_Digits.f k x0).bind fun t167 => ((spec_Digits.f k x1).bind fun t168 => (if (t167 != t168) = true then ((spec_Digits.f k x0).bind fun t169 => (if t169 = true then (some (-1)) else (some 1))) else (if (Op.bytesLess x0.toList x1.toList) = true then (some (-1)) else (some 1)))))
def spec_ComparePart.f (k : Nat) (a0 : ByteArray) (a1 : ByteArray) : Option (Int) := if a0.toList = a1.toList then (some 0) else ((spec_Digits.f k a0).bind fun t164 => (if t164 = true then ((spec_Digits.f k a1).bind fun t165 => (if t165 = true then (spec_ComparePart.j0 k a0 a1 ((a0.size : Int) != (a1.size : Int))) else (spec_ComparePart.j0 k a0 a1 false))) else (spec_ComparePart.j0 k a0 a1 false)))
theorem spec_ComparePart.mono_l : ∀ k, (∀ y0 y1 y2, LeO (spec_ComparePart.j0 k y0 y1 y2) (spec_ComparePart.j0 (k + 1) y0 y1 y2))
  | 0 => fun _ _ _ r h => by simp [spec_ComparePart.j0] at h
  | k + 1 => by
    have ih0 := spec_ComparePart.mono_l k
    · intro y0 y1 y2
      unfold spec_ComparePart.j0
      repeat' first
      | (with_reducible exact ih0 _ _ _)
      | (with_reducible exact spec_Digits.mono _ _)
      | (with_reducible exact LeO.refl _)
      | (with_reducible exact LeO.none _)
      | (with_reducible refine LeO.ite ?_ ?_)
      | (with_reducible refine LeO.bind ?_ (fun _ => ?_))
      | exact ih0 _ _ _
      | exact spec_Digits.mono _ _
      | exact LeO.none _
      | refine LeO.ite ?_ ?_
      | refine LeO.bind ?_ (fun _ => ?_)
theorem spec_ComparePart.mono : ∀ a0 a1 k, LeO (spec_ComparePart.f k a0 a1) (spec_ComparePart.f (k + 1) a0 a1) := by
  intro a0 a1 k
  have ih0 := spec_ComparePart.mono_l k
  unfold spec_ComparePart.f
  repeat' first
      | (with_reducible exact ih0 _ _ _)
      | (with_reducible exact spec_Digits.mono _ _)
      | (with_reducible exact LeO.refl _)
      | (with_reducible exact LeO.none _)
      | (with_reducible refine LeO.ite ?_ ?_)
      | (with_reducible refine LeO.bind ?_ (fun _ => ?_))
      | exact ih0 _ _ _
      | exact spec_Digits.mono _ _
      | exact LeO.none _
      | refine LeO.ite ?_ ?_
      | refine LeO.bind ?_ (fun _ => ?_)
set_option maxHeartbeats 8000000 in
set_option maxRecDepth 100000 in
theorem spec_ComparePart.calls (k : Nat) (a0 : ByteArray) (a1 : ByteArray) (r : Int) (w : World) (h : spec_ComparePart.f k a0 a1 = some r) :
    Calls Tryd.prog 155 #[.string a0, .string a1] w fun e w' => e = .returned (.int .i64 r) ∧ Drawn0 w w' := by
  have H : (if a0.toList = a1.toList then (some 0) else ((spec_Digits.f k a0).bind fun t164 => (if t164 = true then ((spec_Digits.f k a1).bind fun t165 => (if t165 = true then (spec_ComparePart.j0 k a0 a1 ((a0.size : Int) != (a1.size : Int))) else (spec_ComparePart.j0 k a0 a1 false))) else (spec_ComparePart.j0 k a0 a1 false)))) = some r := h
  clear h
  by_cases c3 : a0.toList = a1.toList
  · rw [if_pos c3] at H
    have c3b0 : (a0.toList == a1.toList) = true := beq_iff_eq.mpr c3
    have c3b1 : (a0.toList != a1.toList) = false := bne_eq_false_iff_eq.mpr c3
    clear c3
    obtain rfl := Option.some.inj H
    go_enter Tryd.func155, Tryd.ntmps155
    go_wp2
    go_ret
    exact ⟨by first | rfl | (simp; done) | (simp [*]; done) | (simp [bne]; done) | (simp [bne, List.isEmpty_iff]; done) | (cases a0.toList <;> simp; done), by repeat (first | exact Drawn0.refl _ | apply Drawn0.step)⟩
  · rw [if_neg c3] at H
    have c3b0 : (a0.toList == a1.toList) = false := beq_eq_false_iff_ne.mpr c3
    have c3b1 : (a0.toList != a1.toList) = true := bne_iff_ne.mpr c3
    have HC4 := Aside0.mk H
    clear H
    go_enter Tryd.func155, Tryd.ntmps155
    go_upto_region 3 with (fail)
    go_cut [9] (fun v9 wc => ∃ (kq : Nat) (x9_3 : Bool), v9 = .bool x9_3 ∧ Aside0 (spec_ComparePart.j0 kq a0 a1 x9_3 = some r) ∧ Aside0 (kq ≤ k) ∧ Drawn0 w wc)
    case first =>
      have H := HC4.out
      clear HC4
      replace H := Option.bind_eq_some_iff.mp H
      obtain ⟨t164, A50, H⟩ := H
      replace H : (if t164 = true then ((spec_Digits.f k a1).bind fun t165 => (if t165 = true then (spec_ComparePart.j0 k a0 a1 ((a0.size : Int) != (a1.size : Int))) else (spec_ComparePart.j0 k a0 a1 false))) else (spec_ComparePart.j0 k a0 a1 false)) = some r := H
      have A5 := Aside0.mk A50
      clear A50
      by_cases c6 : t164 = true
      · subst c6
        have H1 : ((spec_Digits.f k a1).bind fun t165 => (if t165 = true then (spec_ComparePart.j0 k a0 a1 ((a0.size : Int) != (a1.size : Int))) else (spec_ComparePart.j0 k a0 a1 false))) = some r := by rw [if_pos rfl] at H; exact H
        clear H
        have H := H1
        clear H1
        replace H := Option.bind_eq_some_iff.mp H
        obtain ⟨t165, A70, H⟩ := H
        replace H : (if t165 = true then (spec_ComparePart.j0 k a0 a1 ((a0.size : Int) != (a1.size : Int))) else (spec_ComparePart.j0 k a0 a1 false)) = some r := H
        have A7 := Aside0.mk A70
        clear A70
        by_cases c8 : t165 = true
        · subst c8
          have H1 : (spec_ComparePart.j0 k a0 a1 ((a0.size : Int) != (a1.size : Int))) = some r := by rw [if_pos rfl] at H; exact H
          clear H
          have H := H1
          clear H1
          have H' := Aside0.mk H
          clear H
          go_wp2_with (first | ((with_reducible refine gate_callee (f := 100) rfl ?_); refine goesL_ (some 11) rfl rfl Tryd.func100 (by kernel_rfl) rfl #[.string a0] rfl (by (try simp only [List.map_toArray, List.map_cons, List.map_nil]); first | done | rfl | (simp only [List.length_drop, List.length_take]; rfl)) ?_; (with_reducible refine (spec_Digits.calls k a0 true _ A5.out).mono ?_); rintro e w' ⟨rfl, ⟨nd, rfl⟩⟩; refine ⟨_, rfl, ?_⟩) | (go_at_call 100; (with_reducible refine (spec_Digits.calls k a1 true _ A7.out).mono ?_); rintro e w' ⟨rfl, ⟨nd, rfl⟩⟩))
          go_meet
          case rel => exact ⟨_, (((a0.size : Int) != (a1.size : Int))), (by first | rfl | (simp; done) | (simp [*]; done)), H', ⟨by first | omega | exact Nat.le_refl _⟩, by repeat (first | exact Drawn0.refl _ | apply Drawn0.step)⟩
        · replace c8 := Bool.eq_false_iff.mpr c8
          subst c8
          have H1 : (spec_ComparePart.j0 k a0 a1 false) = some r := by rw [if_neg (show ¬ (false = true) by decide)] at H; exact H
          clear H
          have H := H1
          clear H1
          have H' := Aside0.mk H
          clear H
          go_wp2_with (first | ((with_reducible refine gate_callee (f := 100) rfl ?_); refine goesL_ (some 11) rfl rfl Tryd.func100 (by kernel_rfl) rfl #[.string a0] rfl (by (try simp only [List.map_toArray, List.map_cons, List.map_nil]); first | done | rfl | (simp only [List.length_drop, List.length_take]; rfl)) ?_; (with_reducible refine (spec_Digits.calls k a0 true _ A5.out).mono ?_); rintro e w' ⟨rfl, ⟨nd, rfl⟩⟩; refine ⟨_, rfl, ?_⟩) | (go_at_call 100; (with_reducible refine (spec_Digits.calls k a1 false _ A7.out).mono ?_); rintro e w' ⟨rfl, ⟨nd, rfl⟩⟩))
          go_meet
          case rel => exact ⟨_, (false), (by first | rfl | (simp; done) | (simp [*]; done)), H', ⟨by first | omega | exact Nat.le_refl _⟩, by repeat (first | exact Drawn0.refl _ | apply Drawn0.step)⟩
      · replace c6 := Bool.eq_false_iff.mpr c6
        subst c6
        have H1 : (spec_ComparePart.j0 k a0 a1 false) = some r := by rw [if_neg (show ¬ (false = true) by decide)] at H; exact H
        clear H
        have H := H1
        clear H1
        have H' := Aside0.mk H
        clear H
        go_wp2_with (first | ((with_reducible refine gate_callee (f := 100) rfl ?_); refine goesL_ (some 11) rfl rfl Tryd.func100 (by kernel_rfl) rfl #[.string a0] rfl (by (try simp only [List.map_toArray, List.map_cons, List.map_nil]); first | done | rfl | (simp only [List.length_drop, List.length_take]; rfl)) ?_; (with_reducible refine (spec_Digits.calls k a0 false _ A5.out).mono ?_); rintro e w' ⟨rfl, ⟨nd, rfl⟩⟩; refine ⟨_, rfl, ?_⟩))
        go_meet
        case rel => exact ⟨_, (false), (by first | rfl | (simp; done) | (simp [*]; done)), H', ⟨by first | omega | exact Nat.le_refl _⟩, by repeat (first | exact Drawn0.refl _ | apply Drawn0.step)⟩
    case rest =>
      clear HC4
      try clear c1
      try clear p2
      try clear c3
      try clear c3b0
      try clear c3b1
      try clear c6
      try clear c8
      obtain ⟨kq, x9_3, rfl, HA, HJ3, ⟨mc3, rfl⟩⟩ := hcut
      cases kq with
      | zero => exact absurd HA.out (by simp [spec_ComparePart.j0])
      | succ kj3 =>
        have H := HA.out
        clear HA
        simp only [spec_ComparePart.j0] at H
        by_cases c9 : x9_3 = true
        · subst c9
          have H1 : ((spec_order.f (IntKind.u64.wrap ((a0.size : Int))) (IntKind.u64.wrap ((a1.size : Int)))).bind fun t166 => (some t166)) = some r := by rw [if_pos rfl] at H; exact H
          clear H
          have H := H1
          clear H1
          replace H := Option.bind_eq_some_iff.mp H
          obtain ⟨t166, A100, H⟩ := H
          replace H : (some t166) = some r := H
          have A10 := Aside0.mk A100
          clear A100
          obtain rfl := Option.some.inj H
          go_wp2_with (first | ((with_reducible refine gate_callee (f := 154) rfl ?_); refine goesL_ (some 29) rfl rfl Tryd.func154 (by kernel_rfl) rfl #[.int .u64 (IntKind.u64.wrap ((a0.size : Int))), .int .u64 (IntKind.u64.wrap ((a1.size : Int)))] rfl (by (try simp only [List.map_toArray, List.map_cons, List.map_nil]); first | done | rfl | (simp only [List.length_drop, List.length_take]; rfl)) ?_; (with_reducible refine (spec_order.calls (IntKind.u64.wrap ((a0.size : Int))) (IntKind.u64.wrap ((a1.size : Int))) t166 _ A10.out).mono ?_); rintro e w' ⟨rfl, ⟨nd, rfl⟩⟩; refine ⟨_, rfl, ?_⟩))
          go_ret
          exact ⟨by first | rfl | (simp; done) | (simp [*]; done) | (simp [bne]; done) | (simp [bne, List.isEmpty_iff]; done) | (cases a0.toList <;> simp; done), by repeat (first | exact Drawn0.refl _ | apply Drawn0.step)⟩
        · replace c9 := Bool.eq_false_iff.mpr c9
          subst c9
          have H1 : ((spec_Digits.f kj3 a0).bind fun t167 => ((spec_Digits.f kj3 a1).bind fun t168 => (if (t167 != t168) = true then ((spec_Digits.f kj3 a0).bind fun t169 => (if t169 = true then (some (-1)) else (some 1))) else (if (Op.bytesLess a0.toList a1.toList) = true then (some (-1)) else (some 1))))) = some r := by rw [if_neg (show ¬ (false = true) by decide)] at H; exact H
          clear H
          have H := H1
          clear H1
          replace H := Option.bind_eq_some_iff.mp H
          obtain ⟨t167, A110, H⟩ := H
          replace H : ((spec_Digits.f kj3 a1).bind fun t168 => (if (t167 != t168) = true then ((spec_Digits.f kj3 a0).bind fun t169 => (if t169 = true then (some (-1)) else (some 1))) else (if (Op.bytesLess a0.toList a1.toList) = true then (some (-1)) else (some 1)))) = some r := H
          have A11 := Aside0.mk A110
          clear A110
          replace H := Option.bind_eq_some_iff.mp H
          obtain ⟨t168, A120, H⟩ := H
          replace H : (if (t167 != t168) = true then ((spec_Digits.f kj3 a0).bind fun t169 => (if t169 = true then (some (-1)) else (some 1))) else (if (Op.bytesLess a0.toList a1.toList) = true then (some (-1)) else (some 1))) = some r := H
          have A12 := Aside0.mk A120
          clear A120
          by_cases c13 : (t167 != t168) = true
          · rw [if_pos c13] at H
            have c13b0 : (t167 != t168) = true := c13
            (try (have c13b1 : decide (t167 = t168) = false := by simpa using c13))
            (try (have c13b2 : (t167 == t168) = false := by simpa using c13))
            (try (have c13b3 : ¬ (t167 = t168) := by simpa using c13))
            clear c13
            replace H := Option.bind_eq_some_iff.mp H
            obtain ⟨t169, A140, H⟩ := H
            replace H : (if t169 = true then (some (-1)) else (some 1)) = some r := H
            have A14 := Aside0.mk A140
            clear A140
            by_cases c15 : t169 = true
            · subst c15
              have H1 : (some (-1)) = some r := by rw [if_pos rfl] at H; exact H
              clear H
              have H := H1
              clear H1
              obtain rfl := Option.some.inj H
              go_wp2_with (first | ((with_reducible refine gate_callee (f := 100) rfl ?_); refine goesL_ (some 32) rfl rfl Tryd.func100 (by kernel_rfl) rfl #[.string a0] rfl (by (try simp only [List.map_toArray, List.map_cons, List.map_nil]); first | done | rfl | (simp only [List.length_drop, List.length_take]; rfl)) ?_; (with_reducible refine (spec_Digits.calls kj3 a0 t167 _ A11.out).mono ?_); rintro e w' ⟨rfl, ⟨nd, rfl⟩⟩; refine ⟨_, rfl, ?_⟩) | ((with_reducible refine gate_callee (f := 100) rfl ?_); refine goesL_ (some 34) rfl rfl Tryd.func100 (by kernel_rfl) rfl #[.string a1] rfl (by (try simp only [List.map_toArray, List.map_cons, List.map_nil]); first | done | rfl | (simp only [List.length_drop, List.length_take]; rfl)) ?_; (with_reducible refine (spec_Digits.calls kj3 a1 t168 _ A12.out).mono ?_); rintro e w' ⟨rfl, ⟨nd, rfl⟩⟩; refine ⟨_, rfl, ?_⟩) | ((with_reducible refine gate_callee (f := 100) rfl ?_); refine goesL_ (some 37) rfl rfl Tryd.func100 (by kernel_rfl) rfl #[.string a0] rfl (by (try simp only [List.map_toArray, List.map_cons, List.map_nil]); first | done | rfl | (simp only [List.length_drop, List.length_take]; rfl)) ?_; (with_reducible refine (spec_Digits.calls kj3 a0 true _ A14.out).mono ?_); rintro e w' ⟨rfl, ⟨nd, rfl⟩⟩; refine ⟨_, rfl, ?_⟩))
              go_ret
              exact ⟨by first | rfl | (simp; done) | (simp [*]; done) | (simp [bne]; done) | (simp [bne, List.isEmpty_iff]; done) | (cases a0.toList <;> simp; done), by repeat (first | exact Drawn0.refl _ | apply Drawn0.step)⟩
            · replace c15 := Bool.eq_false_iff.mpr c15
              subst c15
              have H1 : (some 1) = some r := by rw [if_neg (show ¬ (false = true) by decide)] at H; exact H
              clear H
              have H := H1
              clear H1
              obtain rfl := Option.some.inj H
              go_wp2_with (first | ((with_reducible refine gate_callee (f := 100) rfl ?_); refine goesL_ (some 32) rfl rfl Tryd.func100 (by kernel_rfl) rfl #[.string a0] rfl (by (try simp only [List.map_toArray, List.map_cons, List.map_nil]); first | done | rfl | (simp only [List.length_drop, List.length_take]; rfl)) ?_; (with_reducible refine (spec_Digits.calls kj3 a0 t167 _ A11.out).mono ?_); rintro e w' ⟨rfl, ⟨nd, rfl⟩⟩; refine ⟨_, rfl, ?_⟩) | ((with_reducible refine gate_callee (f := 100) rfl ?_); refine goesL_ (some 34) rfl rfl Tryd.func100 (by kernel_rfl) rfl #[.string a1] rfl (by (try simp only [List.map_toArray, List.map_cons, List.map_nil]); first | done | rfl | (simp only [List.length_drop, List.length_take]; rfl)) ?_; (with_reducible refine (spec_Digits.calls kj3 a1 t168 _ A12.out).mono ?_); rintro e w' ⟨rfl, ⟨nd, rfl⟩⟩; refine ⟨_, rfl, ?_⟩) | ((with_reducible refine gate_callee (f := 100) rfl ?_); refine goesL_ (some 37) rfl rfl Tryd.func100 (by kernel_rfl) rfl #[.string a0] rfl (by (try simp only [List.map_toArray, List.map_cons, List.map_nil]); first | done | rfl | (simp only [List.length_drop, List.length_take]; rfl)) ?_; (with_reducible refine (spec_Digits.calls kj3 a0 false _ A14.out).mono ?_); rintro e w' ⟨rfl, ⟨nd, rfl⟩⟩; refine ⟨_, rfl, ?_⟩))
              go_ret
              exact ⟨by first | rfl | (simp; done) | (simp [*]; done) | (simp [bne]; done) | (simp [bne, List.isEmpty_iff]; done) | (cases a0.toList <;> simp; done), by repeat (first | exact Drawn0.refl _ | apply Drawn0.step)⟩
          · rw [if_neg c13] at H
            have c13b0 : (t167 != t168) = false := by simpa using c13
            (try (have c13b1 : decide (t167 = t168) = true := by simpa using c13))
            (try (have c13b2 : (t167 == t168) = true := by simpa using c13))
            clear c13
            by_cases c16 : (Op.bytesLess a0.toList a1.toList) = true
            · rw [if_pos c16] at H
              have c16b0 : (Op.bytesLess a0.toList a1.toList) = true := c16
              clear c16
              obtain rfl := Option.some.inj H
              go_wp2_with (first | ((with_reducible refine gate_callee (f := 100) rfl ?_); refine goesL_ (some 32) rfl rfl Tryd.func100 (by kernel_rfl) rfl #[.string a0] rfl (by (try simp only [List.map_toArray, List.map_cons, List.map_nil]); first | done | rfl | (simp only [List.length_drop, List.length_take]; rfl)) ?_; (with_reducible refine (spec_Digits.calls kj3 a0 t167 _ A11.out).mono ?_); rintro e w' ⟨rfl, ⟨nd, rfl⟩⟩; refine ⟨_, rfl, ?_⟩) | ((with_reducible refine gate_callee (f := 100) rfl ?_); refine goesL_ (some 34) rfl rfl Tryd.func100 (by kernel_rfl) rfl #[.string a1] rfl (by (try simp only [List.map_toArray, List.map_cons, List.map_nil]); first | done | rfl | (simp only [List.length_drop, List.length_take]; rfl)) ?_; (with_reducible refine (spec_Digits.calls kj3 a1 t168 _ A12.out).mono ?_); rintro e w' ⟨rfl, ⟨nd, rfl⟩⟩; refine ⟨_, rfl, ?_⟩))
              go_ret
              exact ⟨by first | rfl | (simp; done) | (simp [*]; done) | (simp [bne]; done) | (simp [bne, List.isEmpty_iff]; done) | (cases a0.toList <;> simp; done), by repeat (first | exact Drawn0.refl _ | apply Drawn0.step)⟩
            · rw [if_neg c16] at H
              have c16b0 : (Op.bytesLess a0.toList a1.toList) = false := by simpa using c16
              clear c16
              obtain rfl := Option.some.inj H
              go_wp2_with (first | ((with_reducible refine gate_callee (f := 100) rfl ?_); refine goesL_ (some 32) rfl rfl Tryd.func100 (by kernel_rfl) rfl #[.string a0] rfl (by (try simp only [List.map_toArray, List.map_cons, List.map_nil]); first | done | rfl | (simp only [List.length_drop, List.length_take]; rfl)) ?_; (with_reducible refine (spec_Digits.calls kj3 a0 t167 _ A11.out).mono ?_); rintro e w' ⟨rfl, ⟨nd, rfl⟩⟩; refine ⟨_, rfl, ?_⟩) | ((with_reducible refine gate_callee (f := 100) rfl ?_); refine goesL_ (some 34) rfl rfl Tryd.func100 (by kernel_rfl) rfl #[.string a1] rfl (by (try simp only [List.map_toArray, List.map_cons, List.map_nil]); first | done | rfl | (simp only [List.length_drop, List.length_take]; rfl)) ?_; (with_reducible refine (spec_Digits.calls kj3 a1 t168 _ A12.out).mono ?_); rintro e w' ⟨rfl, ⟨nd, rfl⟩⟩; refine ⟨_, rfl, ?_⟩))
              go_ret
              exact ⟨by first | rfl | (simp; done) | (simp [*]; done) | (simp [bne]; done) | (simp [bne, List.isEmpty_iff]; done) | (cases a0.toList <;> simp; done), by repeat (first | exact Drawn0.refl _ | apply Drawn0.step)⟩

end Go.Proofs.YtalpehfjjidfhaaDoor.MF
