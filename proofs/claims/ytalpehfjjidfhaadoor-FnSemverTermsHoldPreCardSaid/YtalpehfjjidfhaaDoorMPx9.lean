-- Written by a program of this session (wip/tools/myprint.py over the kit's print).
import Derived.Test.YtalpehfjjidfhaaDoorMPx0
import Derived.Test.YtalpehfjjidfhaaDoorMPx6
import Derived.Test.YtalpehfjjidfhaaDoorMPx8
namespace Go.Proofs.YtalpehfjjidfhaaDoor.MP
open Go.RowKit Go.Proofs.YtalpehfjjidfhaaDoorW.PrintWords Go.Proofs.YtalpehfjjidfhaaDoorW.PrintLast Go.Proofs.YtalpehfjjidfhaaDoorW.PrintMore Go.Proofs.YtalpehfjjidfhaaDoor
attribute [local go_sem] max2_int min2_int max_two min_two max_three min_three max_four min_four   -- for this text's walks alone
set_option linter.unusedVariables false
set_option linter.unusedSimpArgs false

/-! ### spec_AllHold: function 124 -/
def spec_AllHold.l0 : Nat → List (S42) → Int → Int → Int → Int → Int → ByteArray → ByteArray → Option (Bool)
 | 0, _, _, _, _, _, _, _, _ => none
 | k + 1, x7, x8, x9, x218000, x218001, x218002, x218003, x218004 => if x9 < x8 then (if 0 ≤ x9 then (if x9 < (x7.length : Int) then ((spec_Compares.f k ((rd_T42 x7 x9).f0) ((rd_T42 x7 x9).f1) ((rd_T42 x7 x9).f2) ((rd_T42 x7 x9).f3) ((rd_T42 x7 x9).f4) ((rd_T42 x7 x9).f5) x218000 x218001 x218002 x218003 x218004).bind fun t220 => (if t220 = true then (spec_AllHold.l0 k x7 x8 (wrap64 (x9 + 1)) x218000 x218001 x218002 x218003 x218004) else (some false))) else (none)) else (none)) else (some true)
def spec_AllHold.f (k : Nat) (l0 : List (S42)) (a1_0 : Int) (a1_1 : Int) (a1_2 : Int) (a1_3 : ByteArray) (a1_4 : ByteArray) : Option (Bool) := spec_AllHold.l0 k l0 (l0.length : Int) 0 a1_0 a1_1 a1_2 a1_3 a1_4
theorem spec_AllHold.mono_l : ∀ k, (∀ y0 y1 y2 y3 y4 y5 y6 y7, LeO (spec_AllHold.l0 k y0 y1 y2 y3 y4 y5 y6 y7) (spec_AllHold.l0 (k + 1) y0 y1 y2 y3 y4 y5 y6 y7))
 | 0 => fun _ _ _ _ _ _ _ _ r h => by simp [spec_AllHold.l0] at h
 | k + 1 => by
  have ih0 := spec_AllHold.mono_l k
  ·
   intro y0 y1 y2 y3 y4 y5 y6 y7
   unfold spec_AllHold.l0
   repeat' first
   | (with_reducible exact ih0 _ _ _ _ _ _ _ _)
   | (with_reducible exact spec_Compares.mono _ _ _ _ _ _ _ _ _ _ _ _)
   | (with_reducible exact LeO.refl _)
   | (with_reducible exact LeO.none _)
   | (with_reducible refine LeO.ite ?_ ?_)
   | (with_reducible refine LeO.bind ?_ (fun _ => ?_))
   | exact ih0 _ _ _ _ _ _ _ _
   | exact spec_Compares.mono _ _ _ _ _ _ _ _ _ _ _ _
   | exact LeO.none _
   | refine LeO.ite ?_ ?_
   | refine LeO.bind ?_ (fun _ => ?_)
theorem spec_AllHold.mono : ∀ a0 a1 a2 a3 a4 a5 k, LeO (spec_AllHold.f k a0 a1 a2 a3 a4 a5) (spec_AllHold.f (k + 1) a0 a1 a2 a3 a4 a5) := by
 intro a0 a1 a2 a3 a4 a5 k
 have ih0 := spec_AllHold.mono_l k
 unfold spec_AllHold.f
 repeat' first
   | (with_reducible exact ih0 _ _ _ _ _ _ _ _)
   | (with_reducible exact spec_Compares.mono _ _ _ _ _ _ _ _ _ _ _ _)
   | (with_reducible exact LeO.refl _)
   | (with_reducible exact LeO.none _)
   | (with_reducible refine LeO.ite ?_ ?_)
   | (with_reducible refine LeO.bind ?_ (fun _ => ?_))
   | exact ih0 _ _ _ _ _ _ _ _
   | exact spec_Compares.mono _ _ _ _ _ _ _ _ _ _ _ _
   | exact LeO.none _
   | refine LeO.ite ?_ ?_
   | refine LeO.bind ?_ (fun _ => ?_)
set_option maxHeartbeats 8000000 in
set_option maxRecDepth 100000 in
theorem spec_AllHold.calls (k : Nat) (A0 : Option Addr) (c0 : Nat) (l0 : List (S42)) (a1_0 : Int) (a1_1 : Int) (a1_2 : Int) (a1_3 : ByteArray) (a1_4 : ByteArray) (r : Bool) (w : World) (hr0 : Kd.C k42 w A0 l0.length l0) (hc0 : l0.length ≤ c0) (h : spec_AllHold.f k l0 a1_0 a1_1 a1_2 a1_3 a1_4 = some r) :
  Calls Tryd.prog 124 #[.slice A0 l0.length c0, .agg #[.int .u64 a1_0, .int .u64 a1_1, .int .u64 a1_2, .string a1_3, .string a1_4]] w fun e w' => e = .returned (.bool r) ∧ Below w.heap.size w w' := by
 have hu29 := Tryd.underlying29
 have hu42 := Tryd.underlying42
 have HR0 := Aside0.mk hr0
 have HC0 := Aside0.mk hc0
 clear hr0 hc0
 have HB := Aside0.mk (Below.refl w.heap.size w)
 have H : (spec_AllHold.l0 k l0 (l0.length : Int) 0 a1_0 a1_1 a1_2 a1_3 a1_4) = some r := h
 clear h
 have H' := Aside0.mk H
 clear H
 go_enter Tryd.func124, Tryd.ntmps124
 go_wp2_with (first | ((with_reducible refine gate_dst (N := 3) rfl ?_); refine box_event ?hg (N := 3) ?hd (cs := #[.int .u64 a1_0, .int .u64 a1_1, .int .u64 a1_2, .string a1_3, .string a1_4]) (t := 29) ?hr ?_; (case hd => rfl); (case hg => rfl); (case hr => first | (go_simp; done) | (go_simp; rfl)); intro gb217 hg w3 hbox hb; have n0_ := Aside0.mk (below_step (hbl HB.out) hb); have n1_ := Aside0.mk (hbox); have n2_ := Aside0.mk ((by rw [hg]; exact (below_size (hbl HB.out)) : w.heap.size ≤ gb217)); have n3_ := Aside0.mk ((by rw [hg]; exact (below_size (hbl HB.out)) : w.heap.size ≤ gb217)); clear HB; have HB := n0_; have BK217 := n1_; have GW217 := n2_; have GE217 := n3_; clear n0_ n1_ n2_ n3_; clear hb hbox hg))
 go_loopg [9] k (fun kq v9 w' => ∃ (x9_1 : Int), v9 = .int .i64 x9_1 ∧ Aside0 (spec_AllHold.l0 kq l0 (l0.length : Int) x9_1 a1_0 a1_1 a1_2 a1_3 a1_4 = some r) ∧ Aside0 (kq ≤ k) ∧ Aside0 (w'.heap[gb217]? = some (.cells #[.int .u64 a1_0, .int .u64 a1_1, .int .u64 a1_2, .string a1_3, .string a1_4] 29 (0, 0))) ∧ Aside0 (Below w.heap.size w w'))
 case atStart => exact ⟨(0), hrf, H', ⟨Nat.le_refl _⟩, ⟨by (with_reducible repeat (first | refine blk_drewN ?_ _ | refine blk_drew ?_ | refine blk_alloc ?_ _)); exact BK217.out⟩, ⟨hbl HB.out⟩⟩
 case round =>
  clear H'
  try clear c1
  try clear p2
  obtain ⟨x9_1, rfl, HA, HK1, BK217, HB⟩ := hrel
  cases gk with
  | zero => exact absurd HA.out (by simp [spec_AllHold.l0])
  | succ k1 =>
   have H := HA.out
   clear HA
   simp only [spec_AllHold.l0] at H
   by_cases c4 : x9_1 < (l0.length : Int)
   ·
    rw [if_pos c4] at H
    have c4b0 : decide (x9_1 < (l0.length : Int)) = true := decide_eq_true c4
    clear c4
    by_cases c5 : 0 ≤ x9_1
    ·
     rw [if_pos c5] at H
     have c5b0 : decide (0 ≤ x9_1) = true := decide_eq_true c5
     clear c5
     by_cases c6 : x9_1 < (l0.length : Int)
     ·
      rw [if_pos c6] at H
      have c6b0 : decide (x9_1 < (l0.length : Int)) = true := decide_eq_true c6
      clear c6
      replace H := Option.bind_eq_some_iff.mp H
      obtain ⟨t220, A70, H⟩ := H
      replace H : (if t220 = true then (spec_AllHold.l0 k1 l0 (l0.length : Int) (wrap64 (x9_1 + 1)) a1_0 a1_1 a1_2 a1_3 a1_4) else (some false)) = some r := H
      have A7 := Aside0.mk A70
      clear A70
      by_cases c8 : t220 = true
      ·
       subst c8
       have H1 : (spec_AllHold.l0 k1 l0 (l0.length : Int) (wrap64 (x9_1 + 1)) a1_0 a1_1 a1_2 a1_3 a1_4) = some r := by rw [if_pos rfl] at H; exact H
       clear H
       have H := H1
       clear H1
       have H' := Aside0.mk H
       clear H
       have p218 : 0 ≤ (x9_1 : Int) := of_decide_eq_true (by assumption)
       have q218 : x9_1 < (l0.length : Int) := of_decide_eq_true (by assumption)
       obtain ⟨ad218, e218, hx218_0, hx218_1, hx218_2, hx218_3, hx218_4, hx218_5⟩ := at_T42 HR0.out x9_1 p218 q218
       cases e218
       replace hx218_0 := (HB.out.cell (World.block_lt_of_cell? w _ hx218_0)).trans hx218_0
       replace hx218_1 := (HB.out.cell (World.block_lt_of_cell? w _ hx218_1)).trans hx218_1
       replace hx218_2 := (HB.out.cell (World.block_lt_of_cell? w _ hx218_2)).trans hx218_2
       replace hx218_3 := (HB.out.cell (World.block_lt_of_cell? w _ hx218_3)).trans hx218_3
       replace hx218_4 := (HB.out.cell (World.block_lt_of_cell? w _ hx218_4)).trans hx218_4
       replace hx218_5 := (HB.out.cell (World.block_lt_of_cell? w _ hx218_5)).trans hx218_5
       replace p218 := eq_true p218
       replace q218 := eq_true q218
       go_wp2_with (first | ((with_reducible refine gate_dst (N := 6) rfl ?_); refine box_event ?hg (N := 6) ?hd (cs := #[.int .i64 0, .int .i64 0, .int .u64 0, .int .u64 0, .int .u64 0, .string (⟨#[]⟩ : ByteArray)]) (t := 42) ?hr ?_; (case hd => rfl); (case hg => rfl); (case hr => first | (go_simp; done) | (go_simp; rfl)); intro gb219 hg w9 hbox hb; have n0_ := Aside0.mk (blk_below (hbk BK217.out) hb); have n1_ := Aside0.mk (below_step (hbl HB.out) hb); have n2_ := Aside0.mk (hbox); have n3_ := Aside0.mk ((by rw [hg]; exact (below_size (hbl HB.out)) : w.heap.size ≤ gb219)); have n4_ := Aside0.mk ((by rw [hg]; exact (below_size (hbl HB.out)) : w.heap.size ≤ gb219)); have n5_ := Aside0.mk ((by rw [hg]; exact Nat.ne_of_lt (blk_lt (hbk BK217.out)) : gb217 ≠ gb219)); have n6_ := Aside0.mk ((by rw [hg]; exact Nat.ne_of_gt (blk_lt (hbk BK217.out)) : gb219 ≠ gb217)); clear BK217; clear HB; have BK217 := n0_; have HB := n1_; have BK219 := n2_; have GW219 := n3_; have GE219 := n4_; have NB217_219 := n5_; have NB219_217 := n6_; clear n0_ n1_ n2_ n3_ n4_ n5_ n6_; clear hb hbox hg; have hnb10 := NB219_217.out; have hnc10 := NB217_219.out; have hcz11_0 : w9.cell? ⟨gb219, 0, none⟩ = some (.int .i64 0) := (blk_cell BK219.out 0).trans rfl; have hcz11_1 : w9.cell? ⟨gb219, 1, none⟩ = some (.int .i64 0) := (blk_cell BK219.out 1).trans rfl; have hcz11_2 : w9.cell? ⟨gb219, 2, none⟩ = some (.int .u64 0) := (blk_cell BK219.out 2).trans rfl; have hcz11_3 : w9.cell? ⟨gb219, 3, none⟩ = some (.int .u64 0) := (blk_cell BK219.out 3).trans rfl; have hcz11_4 : w9.cell? ⟨gb219, 4, none⟩ = some (.int .u64 0) := (blk_cell BK219.out 4).trans rfl; have hcz11_5 : w9.cell? ⟨gb219, 5, none⟩ = some (.string (⟨#[]⟩ : ByteArray)) := (blk_cell BK219.out 5).trans rfl; have hfz11_0 := blk_frozen BK219.out 0; have hfz11_1 := blk_frozen BK219.out 1; have hfz11_2 := blk_frozen BK219.out 2; have hfz11_3 := blk_frozen BK219.out 3; have hfz11_4 := blk_frozen BK219.out 4; have hfz11_5 := blk_frozen BK219.out 5; have hcz12_0 : w9.cell? ⟨gb217, 0, none⟩ = some (.int .u64 a1_0) := (blk_cell BK217.out 0).trans rfl; have hcz12_1 : w9.cell? ⟨gb217, 1, none⟩ = some (.int .u64 a1_1) := (blk_cell BK217.out 1).trans rfl; have hcz12_2 : w9.cell? ⟨gb217, 2, none⟩ = some (.int .u64 a1_2) := (blk_cell BK217.out 2).trans rfl; have hcz12_3 : w9.cell? ⟨gb217, 3, none⟩ = some (.string a1_3) := (blk_cell BK217.out 3).trans rfl; have hcz12_4 : w9.cell? ⟨gb217, 4, none⟩ = some (.string a1_4) := (blk_cell BK217.out 4).trans rfl; have hfz12_0 := blk_frozen BK217.out 0; have hfz12_1 := blk_frozen BK217.out 1; have hfz12_2 := blk_frozen BK217.out 2; have hfz12_3 := blk_frozen BK217.out 3; have hfz12_4 := blk_frozen BK217.out 4) | ((with_reducible refine gate_callee (f := 95) rfl ?_); refine goesL_ (some 15) rfl rfl Tryd.func95 (by kernel_rfl) rfl #[.agg #[.int .i64 ((rd_T42 l0 x9_1).f0), .int .i64 ((rd_T42 l0 x9_1).f1), .int .u64 ((rd_T42 l0 x9_1).f2), .int .u64 ((rd_T42 l0 x9_1).f3), .int .u64 ((rd_T42 l0 x9_1).f4), .string ((rd_T42 l0 x9_1).f5)], .agg #[.int .u64 a1_0, .int .u64 a1_1, .int .u64 a1_2, .string a1_3, .string a1_4]] rfl (by (try simp only [List.map_toArray, List.map_cons, List.map_nil]); first | done | rfl | (simp only [List.length_drop, List.length_take]; rfl)) ?_; (with_reducible refine (spec_Compares.calls k1 ((rd_T42 l0 x9_1).f0) ((rd_T42 l0 x9_1).f1) ((rd_T42 l0 x9_1).f2) ((rd_T42 l0 x9_1).f3) ((rd_T42 l0 x9_1).f4) ((rd_T42 l0 x9_1).f5) a1_0 a1_1 a1_2 a1_3 a1_4 true _ A7.out).mono ?_); rintro e w13 ⟨rfl, hb⟩; refine ⟨_, rfl, ?_⟩; have n0_ := Aside0.mk (blk_below (g := gb217) (o := .cells #[.int .u64 a1_0, .int .u64 a1_1, .int .u64 a1_2, .string a1_3, .string a1_4] 29 (0, 0)) (by (with_reducible repeat (first | refine blk_drewN ?_ _ | refine blk_drew ?_ | refine blk_alloc ?_ _)); refine blk_far ?_ NB217_219.out _; (with_reducible repeat (first | refine blk_drewN ?_ _ | refine blk_drew ?_ | refine blk_alloc ?_ _)); refine blk_far ?_ NB217_219.out _; (with_reducible repeat (first | refine blk_drewN ?_ _ | refine blk_drew ?_ | refine blk_alloc ?_ _)); refine blk_far ?_ NB217_219.out _; (with_reducible repeat (first | refine blk_drewN ?_ _ | refine blk_drew ?_ | refine blk_alloc ?_ _)); refine blk_far ?_ NB217_219.out _; (with_reducible repeat (first | refine blk_drewN ?_ _ | refine blk_drew ?_ | refine blk_alloc ?_ _)); refine blk_far ?_ NB217_219.out _; (with_reducible repeat (first | refine blk_drewN ?_ _ | refine blk_drew ?_ | refine blk_alloc ?_ _)); refine blk_far ?_ NB217_219.out _; (with_reducible repeat (first | refine blk_drewN ?_ _ | refine blk_drew ?_ | refine blk_alloc ?_ _)); exact BK217.out) hb); have n1_ := Aside0.mk (blk_below (g := gb219) (o := .cells #[.int .i64 ((rd_T42 l0 x9_1).f0), .int .i64 ((rd_T42 l0 x9_1).f1), .int .u64 ((rd_T42 l0 x9_1).f2), .int .u64 ((rd_T42 l0 x9_1).f3), .int .u64 ((rd_T42 l0 x9_1).f4), .string ((rd_T42 l0 x9_1).f5)] 42 (0, 0)) (by (with_reducible repeat (first | refine blk_drewN ?_ _ | refine blk_drew ?_ | refine blk_alloc ?_ _)); refine blk_put (cs := #[.int .i64 ((rd_T42 l0 x9_1).f0), .int .i64 ((rd_T42 l0 x9_1).f1), .int .u64 ((rd_T42 l0 x9_1).f2), .int .u64 ((rd_T42 l0 x9_1).f3), .int .u64 ((rd_T42 l0 x9_1).f4), .string (⟨#[]⟩ : ByteArray)]) ?_ 5 _ rfl; (with_reducible repeat (first | refine blk_drewN ?_ _ | refine blk_drew ?_ | refine blk_alloc ?_ _)); refine blk_put (cs := #[.int .i64 ((rd_T42 l0 x9_1).f0), .int .i64 ((rd_T42 l0 x9_1).f1), .int .u64 ((rd_T42 l0 x9_1).f2), .int .u64 ((rd_T42 l0 x9_1).f3), .int .u64 0, .string (⟨#[]⟩ : ByteArray)]) ?_ 4 _ rfl; (with_reducible repeat (first | refine blk_drewN ?_ _ | refine blk_drew ?_ | refine blk_alloc ?_ _)); refine blk_put (cs := #[.int .i64 ((rd_T42 l0 x9_1).f0), .int .i64 ((rd_T42 l0 x9_1).f1), .int .u64 ((rd_T42 l0 x9_1).f2), .int .u64 0, .int .u64 0, .string (⟨#[]⟩ : ByteArray)]) ?_ 3 _ rfl; (with_reducible repeat (first | refine blk_drewN ?_ _ | refine blk_drew ?_ | refine blk_alloc ?_ _)); refine blk_put (cs := #[.int .i64 ((rd_T42 l0 x9_1).f0), .int .i64 ((rd_T42 l0 x9_1).f1), .int .u64 0, .int .u64 0, .int .u64 0, .string (⟨#[]⟩ : ByteArray)]) ?_ 2 _ rfl; (with_reducible repeat (first | refine blk_drewN ?_ _ | refine blk_drew ?_ | refine blk_alloc ?_ _)); refine blk_put (cs := #[.int .i64 ((rd_T42 l0 x9_1).f0), .int .i64 0, .int .u64 0, .int .u64 0, .int .u64 0, .string (⟨#[]⟩ : ByteArray)]) ?_ 1 _ rfl; (with_reducible repeat (first | refine blk_drewN ?_ _ | refine blk_drew ?_ | refine blk_alloc ?_ _)); refine blk_put (cs := #[.int .i64 0, .int .i64 0, .int .u64 0, .int .u64 0, .int .u64 0, .string (⟨#[]⟩ : ByteArray)]) ?_ 0 _ rfl; (with_reducible repeat (first | refine blk_drewN ?_ _ | refine blk_drew ?_ | refine blk_alloc ?_ _)); exact BK219.out) hb); have n2_ := Aside0.mk (below_step (hbl HB.out) hb); clear BK217; clear BK219; clear HB; have BK217 := n0_; have BK219 := n1_; have HB := n2_; clear n0_ n1_ n2_; (try clear hb); (try clear hb2); (try clear hk); (try clear hi)))
       go_roundg k1
       case measure => have := HK1.out; omega
       case rel => exact ⟨(wrap64 (x9_1 + 1)), hrf, H', ⟨by have := HK1.out; omega⟩, ⟨by (with_reducible repeat (first | refine blk_drewN ?_ _ | refine blk_drew ?_ | refine blk_alloc ?_ _)); exact BK217.out⟩, ⟨hbl HB.out⟩⟩
      ·
       replace c8 := Bool.eq_false_iff.mpr c8
       subst c8
       have H1 : (some false) = some r := by rw [if_neg (show ¬ (false = true) by decide)] at H; exact H
       clear H
       have H := H1
       clear H1
       obtain rfl := Option.some.inj H
       have p218 : 0 ≤ (x9_1 : Int) := of_decide_eq_true (by assumption)
       have q218 : x9_1 < (l0.length : Int) := of_decide_eq_true (by assumption)
       obtain ⟨ad218, e218, hx218_0, hx218_1, hx218_2, hx218_3, hx218_4, hx218_5⟩ := at_T42 HR0.out x9_1 p218 q218
       cases e218
       replace hx218_0 := (HB.out.cell (World.block_lt_of_cell? w _ hx218_0)).trans hx218_0
       replace hx218_1 := (HB.out.cell (World.block_lt_of_cell? w _ hx218_1)).trans hx218_1
       replace hx218_2 := (HB.out.cell (World.block_lt_of_cell? w _ hx218_2)).trans hx218_2
       replace hx218_3 := (HB.out.cell (World.block_lt_of_cell? w _ hx218_3)).trans hx218_3
       replace hx218_4 := (HB.out.cell (World.block_lt_of_cell? w _ hx218_4)).trans hx218_4
       replace hx218_5 := (HB.out.cell (World.block_lt_of_cell? w _ hx218_5)).trans hx218_5
       replace p218 := eq_true p218
       replace q218 := eq_true q218
       go_wp2_with (first | ((with_reducible refine gate_dst (N := 6) rfl ?_); refine box_event ?hg (N := 6) ?hd (cs := #[.int .i64 0, .int .i64 0, .int .u64 0, .int .u64 0, .int .u64 0, .string (⟨#[]⟩ : ByteArray)]) (t := 42) ?hr ?_; (case hd => rfl); (case hg => rfl); (case hr => first | (go_simp; done) | (go_simp; rfl)); intro gb219 hg w14 hbox hb; have n0_ := Aside0.mk (blk_below (hbk BK217.out) hb); have n1_ := Aside0.mk (below_step (hbl HB.out) hb); have n2_ := Aside0.mk (hbox); have n3_ := Aside0.mk ((by rw [hg]; exact (below_size (hbl HB.out)) : w.heap.size ≤ gb219)); have n4_ := Aside0.mk ((by rw [hg]; exact (below_size (hbl HB.out)) : w.heap.size ≤ gb219)); have n5_ := Aside0.mk ((by rw [hg]; exact Nat.ne_of_lt (blk_lt (hbk BK217.out)) : gb217 ≠ gb219)); have n6_ := Aside0.mk ((by rw [hg]; exact Nat.ne_of_gt (blk_lt (hbk BK217.out)) : gb219 ≠ gb217)); clear BK217; clear HB; have BK217 := n0_; have HB := n1_; have BK219 := n2_; have GW219 := n3_; have GE219 := n4_; have NB217_219 := n5_; have NB219_217 := n6_; clear n0_ n1_ n2_ n3_ n4_ n5_ n6_; clear hb hbox hg; have hnb15 := NB219_217.out; have hnc15 := NB217_219.out; have hcz16_0 : w14.cell? ⟨gb219, 0, none⟩ = some (.int .i64 0) := (blk_cell BK219.out 0).trans rfl; have hcz16_1 : w14.cell? ⟨gb219, 1, none⟩ = some (.int .i64 0) := (blk_cell BK219.out 1).trans rfl; have hcz16_2 : w14.cell? ⟨gb219, 2, none⟩ = some (.int .u64 0) := (blk_cell BK219.out 2).trans rfl; have hcz16_3 : w14.cell? ⟨gb219, 3, none⟩ = some (.int .u64 0) := (blk_cell BK219.out 3).trans rfl; have hcz16_4 : w14.cell? ⟨gb219, 4, none⟩ = some (.int .u64 0) := (blk_cell BK219.out 4).trans rfl; have hcz16_5 : w14.cell? ⟨gb219, 5, none⟩ = some (.string (⟨#[]⟩ : ByteArray)) := (blk_cell BK219.out 5).trans rfl; have hfz16_0 := blk_frozen BK219.out 0; have hfz16_1 := blk_frozen BK219.out 1; have hfz16_2 := blk_frozen BK219.out 2; have hfz16_3 := blk_frozen BK219.out 3; have hfz16_4 := blk_frozen BK219.out 4; have hfz16_5 := blk_frozen BK219.out 5; have hcz17_0 : w14.cell? ⟨gb217, 0, none⟩ = some (.int .u64 a1_0) := (blk_cell BK217.out 0).trans rfl; have hcz17_1 : w14.cell? ⟨gb217, 1, none⟩ = some (.int .u64 a1_1) := (blk_cell BK217.out 1).trans rfl; have hcz17_2 : w14.cell? ⟨gb217, 2, none⟩ = some (.int .u64 a1_2) := (blk_cell BK217.out 2).trans rfl; have hcz17_3 : w14.cell? ⟨gb217, 3, none⟩ = some (.string a1_3) := (blk_cell BK217.out 3).trans rfl; have hcz17_4 : w14.cell? ⟨gb217, 4, none⟩ = some (.string a1_4) := (blk_cell BK217.out 4).trans rfl; have hfz17_0 := blk_frozen BK217.out 0; have hfz17_1 := blk_frozen BK217.out 1; have hfz17_2 := blk_frozen BK217.out 2; have hfz17_3 := blk_frozen BK217.out 3; have hfz17_4 := blk_frozen BK217.out 4) | ((with_reducible refine gate_callee (f := 95) rfl ?_); refine goesL_ (some 15) rfl rfl Tryd.func95 (by kernel_rfl) rfl #[.agg #[.int .i64 ((rd_T42 l0 x9_1).f0), .int .i64 ((rd_T42 l0 x9_1).f1), .int .u64 ((rd_T42 l0 x9_1).f2), .int .u64 ((rd_T42 l0 x9_1).f3), .int .u64 ((rd_T42 l0 x9_1).f4), .string ((rd_T42 l0 x9_1).f5)], .agg #[.int .u64 a1_0, .int .u64 a1_1, .int .u64 a1_2, .string a1_3, .string a1_4]] rfl (by (try simp only [List.map_toArray, List.map_cons, List.map_nil]); first | done | rfl | (simp only [List.length_drop, List.length_take]; rfl)) ?_; (with_reducible refine (spec_Compares.calls k1 ((rd_T42 l0 x9_1).f0) ((rd_T42 l0 x9_1).f1) ((rd_T42 l0 x9_1).f2) ((rd_T42 l0 x9_1).f3) ((rd_T42 l0 x9_1).f4) ((rd_T42 l0 x9_1).f5) a1_0 a1_1 a1_2 a1_3 a1_4 false _ A7.out).mono ?_); rintro e w18 ⟨rfl, hb⟩; refine ⟨_, rfl, ?_⟩; have n0_ := Aside0.mk (blk_below (g := gb217) (o := .cells #[.int .u64 a1_0, .int .u64 a1_1, .int .u64 a1_2, .string a1_3, .string a1_4] 29 (0, 0)) (by (with_reducible repeat (first | refine blk_drewN ?_ _ | refine blk_drew ?_ | refine blk_alloc ?_ _)); refine blk_far ?_ NB217_219.out _; (with_reducible repeat (first | refine blk_drewN ?_ _ | refine blk_drew ?_ | refine blk_alloc ?_ _)); refine blk_far ?_ NB217_219.out _; (with_reducible repeat (first | refine blk_drewN ?_ _ | refine blk_drew ?_ | refine blk_alloc ?_ _)); refine blk_far ?_ NB217_219.out _; (with_reducible repeat (first | refine blk_drewN ?_ _ | refine blk_drew ?_ | refine blk_alloc ?_ _)); refine blk_far ?_ NB217_219.out _; (with_reducible repeat (first | refine blk_drewN ?_ _ | refine blk_drew ?_ | refine blk_alloc ?_ _)); refine blk_far ?_ NB217_219.out _; (with_reducible repeat (first | refine blk_drewN ?_ _ | refine blk_drew ?_ | refine blk_alloc ?_ _)); refine blk_far ?_ NB217_219.out _; (with_reducible repeat (first | refine blk_drewN ?_ _ | refine blk_drew ?_ | refine blk_alloc ?_ _)); exact BK217.out) hb); have n1_ := Aside0.mk (blk_below (g := gb219) (o := .cells #[.int .i64 ((rd_T42 l0 x9_1).f0), .int .i64 ((rd_T42 l0 x9_1).f1), .int .u64 ((rd_T42 l0 x9_1).f2), .int .u64 ((rd_T42 l0 x9_1).f3), .int .u64 ((rd_T42 l0 x9_1).f4), .string ((rd_T42 l0 x9_1).f5)] 42 (0, 0)) (by (with_reducible repeat (first | refine blk_drewN ?_ _ | refine blk_drew ?_ | refine blk_alloc ?_ _)); refine blk_put (cs := #[.int .i64 ((rd_T42 l0 x9_1).f0), .int .i64 ((rd_T42 l0 x9_1).f1), .int .u64 ((rd_T42 l0 x9_1).f2), .int .u64 ((rd_T42 l0 x9_1).f3), .int .u64 ((rd_T42 l0 x9_1).f4), .string (⟨#[]⟩ : ByteArray)]) ?_ 5 _ rfl; (with_reducible repeat (first | refine blk_drewN ?_ _ | refine blk_drew ?_ | refine blk_alloc ?_ _)); refine blk_put (cs := #[.int .i64 ((rd_T42 l0 x9_1).f0), .int .i64 ((rd_T42 l0 x9_1).f1), .int .u64 ((rd_T42 l0 x9_1).f2), .int .u64 ((rd_T42 l0 x9_1).f3), .int .u64 0, .string (⟨#[]⟩ : ByteArray)]) ?_ 4 _ rfl; (with_reducible repeat (first | refine blk_drewN ?_ _ | refine blk_drew ?_ | refine blk_alloc ?_ _)); refine blk_put (cs := #[.int .i64 ((rd_T42 l0 x9_1).f0), .int .i64 ((rd_T42 l0 x9_1).f1), .int .u64 ((rd_T42 l0 x9_1).f2), .int .u64 0, .int .u64 0, .string (⟨#[]⟩ : ByteArray)]) ?_ 3 _ rfl; (with_reducible repeat (first | refine blk_drewN ?_ _ | refine blk_drew ?_ | refine blk_alloc ?_ _)); refine blk_put (cs := #[.int .i64 ((rd_T42 l0 x9_1).f0), .int .i64 ((rd_T42 l0 x9_1).f1), .int .u64 0, .int .u64 0, .int .u64 0, .string (⟨#[]⟩ : ByteArray)]) ?_ 2 _ rfl; (with_reducible repeat (first | refine blk_drewN ?_ _ | refine blk_drew ?_ | refine blk_alloc ?_ _)); refine blk_put (cs := #[.int .i64 ((rd_T42 l0 x9_1).f0), .int .i64 0, .int .u64 0, .int .u64 0, .int .u64 0, .string (⟨#[]⟩ : ByteArray)]) ?_ 1 _ rfl; (with_reducible repeat (first | refine blk_drewN ?_ _ | refine blk_drew ?_ | refine blk_alloc ?_ _)); refine blk_put (cs := #[.int .i64 0, .int .i64 0, .int .u64 0, .int .u64 0, .int .u64 0, .string (⟨#[]⟩ : ByteArray)]) ?_ 0 _ rfl; (with_reducible repeat (first | refine blk_drewN ?_ _ | refine blk_drew ?_ | refine blk_alloc ?_ _)); exact BK219.out) hb); have n2_ := Aside0.mk (below_step (hbl HB.out) hb); clear BK217; clear BK219; clear HB; have BK217 := n0_; have BK219 := n1_; have HB := n2_; clear n0_ n1_ n2_; (try clear hb); (try clear hb2); (try clear hk); (try clear hi)))
       go_ret
       exact ⟨hrf, hbl HB.out⟩
     ·
      rw [if_neg c6] at H
      exact absurd H (by simp)
    ·
     rw [if_neg c5] at H
     exact absurd H (by simp)
   ·
    rw [if_neg c4] at H
    have c4b0 : decide (x9_1 < (l0.length : Int)) = false := decide_eq_false c4
    clear c4
    obtain rfl := Option.some.inj H
    go_wp2
    go_ret
    exact ⟨hrf, hbl HB.out⟩

/-! ### spec_Satisfies: function 76 -/
def spec_Satisfies.l0 : Nat → Bool → List (List (S42)) → Int → Int → Int → Int → Int → ByteArray → ByteArray → Option (Bool)
 | 0, _, _, _, _, _, _, _, _, _ => none
 | k + 1, x2, x9, x10, x11, x222000, x222001, x222002, x222003, x222004 => if x11 < x10 then (if 0 ≤ x11 then (if x11 < (x9.length : Int) then ((spec_LetsIn.f k (rd_L5 x9 x11) x222000 x222001 x222002 x222003 x222004 x2).bind fun t223 => (if t223 = true then ((spec_AllHold.f k (rd_L5 x9 x11) x222000 x222001 x222002 x222003 x222004).bind fun t224 => (if t224 = true then (some true) else (spec_Satisfies.l0 k x2 x9 x10 (wrap64 (x11 + 1)) x222000 x222001 x222002 x222003 x222004))) else (spec_Satisfies.l0 k x2 x9 x10 (wrap64 (x11 + 1)) x222000 x222001 x222002 x222003 x222004))) else (none)) else (none)) else (some false)
def spec_Satisfies.f (k : Nat) (l0 : List (List (S42))) (a1_0 : Int) (a1_1 : Int) (a1_2 : Int) (a1_3 : ByteArray) (a1_4 : ByteArray) (a2 : Bool) : Option (Bool) := spec_Satisfies.l0 k a2 l0 (l0.length : Int) 0 a1_0 a1_1 a1_2 a1_3 a1_4
theorem spec_Satisfies.mono_l : ∀ k, (∀ y0 y1 y2 y3 y4 y5 y6 y7 y8, LeO (spec_Satisfies.l0 k y0 y1 y2 y3 y4 y5 y6 y7 y8) (spec_Satisfies.l0 (k + 1) y0 y1 y2 y3 y4 y5 y6 y7 y8))
 | 0 => fun _ _ _ _ _ _ _ _ _ r h => by simp [spec_Satisfies.l0] at h
 | k + 1 => by
  have ih0 := spec_Satisfies.mono_l k
  ·
   intro y0 y1 y2 y3 y4 y5 y6 y7 y8
   unfold spec_Satisfies.l0
   repeat' first
   | (with_reducible exact ih0 _ _ _ _ _ _ _ _ _)
   | (with_reducible exact spec_AllHold.mono _ _ _ _ _ _ _)
   | (with_reducible exact spec_LetsIn.mono _ _ _ _ _ _ _ _)
   | (with_reducible exact LeO.refl _)
   | (with_reducible exact LeO.none _)
   | (with_reducible refine LeO.ite ?_ ?_)
   | (with_reducible refine LeO.bind ?_ (fun _ => ?_))
   | exact ih0 _ _ _ _ _ _ _ _ _
   | exact spec_AllHold.mono _ _ _ _ _ _ _
   | exact spec_LetsIn.mono _ _ _ _ _ _ _ _
   | exact LeO.none _
   | refine LeO.ite ?_ ?_
   | refine LeO.bind ?_ (fun _ => ?_)
theorem spec_Satisfies.mono : ∀ a0 a1 a2 a3 a4 a5 a6 k, LeO (spec_Satisfies.f k a0 a1 a2 a3 a4 a5 a6) (spec_Satisfies.f (k + 1) a0 a1 a2 a3 a4 a5 a6) := by
 intro a0 a1 a2 a3 a4 a5 a6 k
 have ih0 := spec_Satisfies.mono_l k
 unfold spec_Satisfies.f
 repeat' first
   | (with_reducible exact ih0 _ _ _ _ _ _ _ _ _)
   | (with_reducible exact spec_AllHold.mono _ _ _ _ _ _ _)
   | (with_reducible exact spec_LetsIn.mono _ _ _ _ _ _ _ _)
   | (with_reducible exact LeO.refl _)
   | (with_reducible exact LeO.none _)
   | (with_reducible refine LeO.ite ?_ ?_)
   | (with_reducible refine LeO.bind ?_ (fun _ => ?_))
   | exact ih0 _ _ _ _ _ _ _ _ _
   | exact spec_AllHold.mono _ _ _ _ _ _ _
   | exact spec_LetsIn.mono _ _ _ _ _ _ _ _
   | exact LeO.none _
   | refine LeO.ite ?_ ?_
   | refine LeO.bind ?_ (fun _ => ?_)
set_option maxHeartbeats 8000000 in
set_option maxRecDepth 100000 in
theorem spec_Satisfies.calls (k : Nat) (A0 : Option Addr) (c0 : Nat) (l0 : List (List (S42))) (a1_0 : Int) (a1_1 : Int) (a1_2 : Int) (a1_3 : ByteArray) (a1_4 : ByteArray) (a2 : Bool) (r : Bool) (w : World) (hr0 : Kd.C (Kd.slice 42 k42) w A0 l0.length l0) (hc0 : l0.length ≤ c0) (h : spec_Satisfies.f k l0 a1_0 a1_1 a1_2 a1_3 a1_4 a2 = some r) :
  Calls Tryd.prog 76 #[.slice A0 l0.length c0, .agg #[.int .u64 a1_0, .int .u64 a1_1, .int .u64 a1_2, .string a1_3, .string a1_4], .bool a2] w fun e w' => e = .returned (.bool r) ∧ Below w.heap.size w w' := by
 have hu29 := Tryd.underlying29
 have HR0 := Aside0.mk hr0
 have HC0 := Aside0.mk hc0
 clear hr0 hc0
 have HB := Aside0.mk (Below.refl w.heap.size w)
 have H : (spec_Satisfies.l0 k a2 l0 (l0.length : Int) 0 a1_0 a1_1 a1_2 a1_3 a1_4) = some r := h
 clear h
 have H' := Aside0.mk H
 clear H
 go_enter Tryd.func76, Tryd.ntmps76
 go_wp2_with (first | ((with_reducible refine gate_dst (N := 4) rfl ?_); refine box_event ?hg (N := 4) ?hd (cs := #[.int .u64 a1_0, .int .u64 a1_1, .int .u64 a1_2, .string a1_3, .string a1_4]) (t := 29) ?hr ?_; (case hd => rfl); (case hg => rfl); (case hr => first | (go_simp; done) | (go_simp; rfl)); intro gb221 hg w4 hbox hb; have n0_ := Aside0.mk (below_step (hbl HB.out) hb); have n1_ := Aside0.mk (hbox); have n2_ := Aside0.mk ((by rw [hg]; exact (below_size (hbl HB.out)) : w.heap.size ≤ gb221)); have n3_ := Aside0.mk ((by rw [hg]; exact (below_size (hbl HB.out)) : w.heap.size ≤ gb221)); clear HB; have HB := n0_; have BK221 := n1_; have GW221 := n2_; have GE221 := n3_; clear n0_ n1_ n2_ n3_; clear hb hbox hg))
 go_loopg [11] k (fun kq v11 w' => ∃ (x11_1 : Int), v11 = .int .i64 x11_1 ∧ Aside0 (spec_Satisfies.l0 kq a2 l0 (l0.length : Int) x11_1 a1_0 a1_1 a1_2 a1_3 a1_4 = some r) ∧ Aside0 (kq ≤ k) ∧ Aside0 (w'.heap[gb221]? = some (.cells #[.int .u64 a1_0, .int .u64 a1_1, .int .u64 a1_2, .string a1_3, .string a1_4] 29 (0, 0))) ∧ Aside0 (Below w.heap.size w w'))
 case atStart => exact ⟨(0), hrf, H', ⟨Nat.le_refl _⟩, ⟨by (with_reducible repeat (first | refine blk_drewN ?_ _ | refine blk_drew ?_ | refine blk_alloc ?_ _)); exact BK221.out⟩, ⟨hbl HB.out⟩⟩
 case round =>
  clear H'
  try clear p2
  obtain ⟨x11_1, rfl, HA, HK1, BK221, HB⟩ := hrel
  cases gk with
  | zero => exact absurd HA.out (by simp [spec_Satisfies.l0])
  | succ k1 =>
   have H := HA.out
   clear HA
   simp only [spec_Satisfies.l0] at H
   by_cases c5 : x11_1 < (l0.length : Int)
   ·
    rw [if_pos c5] at H
    have c5b0 : decide (x11_1 < (l0.length : Int)) = true := decide_eq_true c5
    clear c5
    by_cases c6 : 0 ≤ x11_1
    ·
     rw [if_pos c6] at H
     have c6b0 : decide (0 ≤ x11_1) = true := decide_eq_true c6
     clear c6
     by_cases c7 : x11_1 < (l0.length : Int)
     ·
      rw [if_pos c7] at H
      have c7b0 : decide (x11_1 < (l0.length : Int)) = true := decide_eq_true c7
      clear c7
      replace H := Option.bind_eq_some_iff.mp H
      obtain ⟨t223, A80, H⟩ := H
      replace H : (if t223 = true then ((spec_AllHold.f k1 (rd_L5 l0 x11_1) a1_0 a1_1 a1_2 a1_3 a1_4).bind fun t224 => (if t224 = true then (some true) else (spec_Satisfies.l0 k1 a2 l0 (l0.length : Int) (wrap64 (x11_1 + 1)) a1_0 a1_1 a1_2 a1_3 a1_4))) else (spec_Satisfies.l0 k1 a2 l0 (l0.length : Int) (wrap64 (x11_1 + 1)) a1_0 a1_1 a1_2 a1_3 a1_4)) = some r := H
      have A8 := Aside0.mk A80
      clear A80
      by_cases c9 : t223 = true
      ·
       subst c9
       have H1 : ((spec_AllHold.f k1 (rd_L5 l0 x11_1) a1_0 a1_1 a1_2 a1_3 a1_4).bind fun t224 => (if t224 = true then (some true) else (spec_Satisfies.l0 k1 a2 l0 (l0.length : Int) (wrap64 (x11_1 + 1)) a1_0 a1_1 a1_2 a1_3 a1_4))) = some r := by rw [if_pos rfl] at H; exact H
       clear H
       have H := H1
       clear H1
       replace H := Option.bind_eq_some_iff.mp H
       obtain ⟨t224, A100, H⟩ := H
       replace H : (if t224 = true then (some true) else (spec_Satisfies.l0 k1 a2 l0 (l0.length : Int) (wrap64 (x11_1 + 1)) a1_0 a1_1 a1_2 a1_3 a1_4)) = some r := H
       have A10 := Aside0.mk A100
       clear A100
       by_cases c11 : t224 = true
       ·
        subst c11
        have H1 : (some true) = some r := by rw [if_pos rfl] at H; exact H
        clear H
        have H := H1
        clear H1
        obtain rfl := Option.some.inj H
        have p222 : 0 ≤ (x11_1 : Int) := of_decide_eq_true (by assumption)
        have q222 : x11_1 < (l0.length : Int) := of_decide_eq_true (by assumption)
        obtain ⟨ad222, A222_0, c222_0, e222, hx222_0, hl222_0, hi222_0⟩ := at_L5 HR0.out x11_1 p222 q222
        cases e222
        replace hx222_0 := (HB.out.cell (World.block_lt_of_cell? w _ hx222_0)).trans hx222_0
        have HR222_0 := Aside0.mk hi222_0
        have HC222_0 := Aside0.mk hl222_0
        clear hi222_0 hl222_0
        replace p222 := eq_true p222
        replace q222 := eq_true q222
        have hcz12_0 : wr.cell? ⟨gb221, 0, none⟩ = some (.int .u64 a1_0) := (blk_cell BK221.out 0).trans rfl
        have hcz12_1 : wr.cell? ⟨gb221, 1, none⟩ = some (.int .u64 a1_1) := (blk_cell BK221.out 1).trans rfl
        have hcz12_2 : wr.cell? ⟨gb221, 2, none⟩ = some (.int .u64 a1_2) := (blk_cell BK221.out 2).trans rfl
        have hcz12_3 : wr.cell? ⟨gb221, 3, none⟩ = some (.string a1_3) := (blk_cell BK221.out 3).trans rfl
        have hcz12_4 : wr.cell? ⟨gb221, 4, none⟩ = some (.string a1_4) := (blk_cell BK221.out 4).trans rfl
        have hfz12_0 := blk_frozen BK221.out 0
        have hfz12_1 := blk_frozen BK221.out 1
        have hfz12_2 := blk_frozen BK221.out 2
        have hfz12_3 := blk_frozen BK221.out 3
        have hfz12_4 := blk_frozen BK221.out 4
        go_wp2_with (first | ((with_reducible refine gate_callee (f := 123) rfl ?_); refine goesL_ (some 18) rfl rfl Tryd.func123 (by kernel_rfl) rfl #[.slice A222_0 (rd_L5 l0 x11_1).length c222_0, .agg #[.int .u64 a1_0, .int .u64 a1_1, .int .u64 a1_2, .string a1_3, .string a1_4], .bool a2] rfl (by (try simp only [List.map_toArray, List.map_cons, List.map_nil]); first | done | rfl | (simp only [List.length_drop, List.length_take]; rfl)) ?_; (with_reducible refine (spec_LetsIn.calls k1 _ _ (rd_L5 l0 x11_1) a1_0 a1_1 a1_2 a1_3 a1_4 a2 true _ ?side1 ?side2 A8.out).mono ?_); (case side1 => repeat (first | exact (Kd.C_below HR222_0.out HB.out) | (with_reducible refine Kd.C_alloc ?_ _) | (with_reducible refine Kd.C_drewN ?_ _) | (with_reducible refine Kd.C_drew ?_))); (case side2 => exact HC222_0.out); rintro e w13 ⟨rfl, hb⟩; refine ⟨_, rfl, ?_⟩; have n0_ := Aside0.mk (blk_below (hbk BK221.out) hb); have n1_ := Aside0.mk (below_step (hbl HB.out) hb); clear BK221; clear HB; have BK221 := n0_; have HB := n1_; clear n0_ n1_; (try clear hb); (try clear hb2); (try clear hk); (try clear hi); have hcz14_0 : w13.cell? ⟨gb221, 0, none⟩ = some (.int .u64 a1_0) := (blk_cell BK221.out 0).trans rfl; have hcz14_1 : w13.cell? ⟨gb221, 1, none⟩ = some (.int .u64 a1_1) := (blk_cell BK221.out 1).trans rfl; have hcz14_2 : w13.cell? ⟨gb221, 2, none⟩ = some (.int .u64 a1_2) := (blk_cell BK221.out 2).trans rfl; have hcz14_3 : w13.cell? ⟨gb221, 3, none⟩ = some (.string a1_3) := (blk_cell BK221.out 3).trans rfl; have hcz14_4 : w13.cell? ⟨gb221, 4, none⟩ = some (.string a1_4) := (blk_cell BK221.out 4).trans rfl; have hfz14_0 := blk_frozen BK221.out 0; have hfz14_1 := blk_frozen BK221.out 1; have hfz14_2 := blk_frozen BK221.out 2; have hfz14_3 := blk_frozen BK221.out 3; have hfz14_4 := blk_frozen BK221.out 4) | (go_at_call 124; (with_reducible refine (spec_AllHold.calls k1 _ _ (rd_L5 l0 x11_1) a1_0 a1_1 a1_2 a1_3 a1_4 true _ ?side1 ?side2 A10.out).mono ?_); (case side1 => repeat (first | exact (Kd.C_below HR222_0.out HB.out) | (with_reducible refine Kd.C_alloc ?_ _) | (with_reducible refine Kd.C_drewN ?_ _) | (with_reducible refine Kd.C_drew ?_))); (case side2 => exact HC222_0.out); rintro e w15 ⟨rfl, hb⟩; have n0_ := Aside0.mk (blk_below (hbk BK221.out) hb); have n1_ := Aside0.mk (below_step (hbl HB.out) hb); clear BK221; clear HB; have BK221 := n0_; have HB := n1_; clear n0_ n1_; (try clear hb); (try clear hb2); (try clear hk); (try clear hi)))
        go_ret
        exact ⟨hrf, hbl HB.out⟩
       ·
        replace c11 := Bool.eq_false_iff.mpr c11
        subst c11
        have H1 : (spec_Satisfies.l0 k1 a2 l0 (l0.length : Int) (wrap64 (x11_1 + 1)) a1_0 a1_1 a1_2 a1_3 a1_4) = some r := by rw [if_neg (show ¬ (false = true) by decide)] at H; exact H
        clear H
        have H := H1
        clear H1
        have H' := Aside0.mk H
        clear H
        have p222 : 0 ≤ (x11_1 : Int) := of_decide_eq_true (by assumption)
        have q222 : x11_1 < (l0.length : Int) := of_decide_eq_true (by assumption)
        obtain ⟨ad222, A222_0, c222_0, e222, hx222_0, hl222_0, hi222_0⟩ := at_L5 HR0.out x11_1 p222 q222
        cases e222
        replace hx222_0 := (HB.out.cell (World.block_lt_of_cell? w _ hx222_0)).trans hx222_0
        have HR222_0 := Aside0.mk hi222_0
        have HC222_0 := Aside0.mk hl222_0
        clear hi222_0 hl222_0
        replace p222 := eq_true p222
        replace q222 := eq_true q222
        have hcz16_0 : wr.cell? ⟨gb221, 0, none⟩ = some (.int .u64 a1_0) := (blk_cell BK221.out 0).trans rfl
        have hcz16_1 : wr.cell? ⟨gb221, 1, none⟩ = some (.int .u64 a1_1) := (blk_cell BK221.out 1).trans rfl
        have hcz16_2 : wr.cell? ⟨gb221, 2, none⟩ = some (.int .u64 a1_2) := (blk_cell BK221.out 2).trans rfl
        have hcz16_3 : wr.cell? ⟨gb221, 3, none⟩ = some (.string a1_3) := (blk_cell BK221.out 3).trans rfl
        have hcz16_4 : wr.cell? ⟨gb221, 4, none⟩ = some (.string a1_4) := (blk_cell BK221.out 4).trans rfl
        have hfz16_0 := blk_frozen BK221.out 0
        have hfz16_1 := blk_frozen BK221.out 1
        have hfz16_2 := blk_frozen BK221.out 2
        have hfz16_3 := blk_frozen BK221.out 3
        have hfz16_4 := blk_frozen BK221.out 4
        go_wp2_with (first | ((with_reducible refine gate_callee (f := 123) rfl ?_); refine goesL_ (some 18) rfl rfl Tryd.func123 (by kernel_rfl) rfl #[.slice A222_0 (rd_L5 l0 x11_1).length c222_0, .agg #[.int .u64 a1_0, .int .u64 a1_1, .int .u64 a1_2, .string a1_3, .string a1_4], .bool a2] rfl (by (try simp only [List.map_toArray, List.map_cons, List.map_nil]); first | done | rfl | (simp only [List.length_drop, List.length_take]; rfl)) ?_; (with_reducible refine (spec_LetsIn.calls k1 _ _ (rd_L5 l0 x11_1) a1_0 a1_1 a1_2 a1_3 a1_4 a2 true _ ?side1 ?side2 A8.out).mono ?_); (case side1 => repeat (first | exact (Kd.C_below HR222_0.out HB.out) | (with_reducible refine Kd.C_alloc ?_ _) | (with_reducible refine Kd.C_drewN ?_ _) | (with_reducible refine Kd.C_drew ?_))); (case side2 => exact HC222_0.out); rintro e w17 ⟨rfl, hb⟩; refine ⟨_, rfl, ?_⟩; have n0_ := Aside0.mk (blk_below (hbk BK221.out) hb); have n1_ := Aside0.mk (below_step (hbl HB.out) hb); clear BK221; clear HB; have BK221 := n0_; have HB := n1_; clear n0_ n1_; (try clear hb); (try clear hb2); (try clear hk); (try clear hi); have hcz18_0 : w17.cell? ⟨gb221, 0, none⟩ = some (.int .u64 a1_0) := (blk_cell BK221.out 0).trans rfl; have hcz18_1 : w17.cell? ⟨gb221, 1, none⟩ = some (.int .u64 a1_1) := (blk_cell BK221.out 1).trans rfl; have hcz18_2 : w17.cell? ⟨gb221, 2, none⟩ = some (.int .u64 a1_2) := (blk_cell BK221.out 2).trans rfl; have hcz18_3 : w17.cell? ⟨gb221, 3, none⟩ = some (.string a1_3) := (blk_cell BK221.out 3).trans rfl; have hcz18_4 : w17.cell? ⟨gb221, 4, none⟩ = some (.string a1_4) := (blk_cell BK221.out 4).trans rfl; have hfz18_0 := blk_frozen BK221.out 0; have hfz18_1 := blk_frozen BK221.out 1; have hfz18_2 := blk_frozen BK221.out 2; have hfz18_3 := blk_frozen BK221.out 3; have hfz18_4 := blk_frozen BK221.out 4) | (go_at_call 124; (with_reducible refine (spec_AllHold.calls k1 _ _ (rd_L5 l0 x11_1) a1_0 a1_1 a1_2 a1_3 a1_4 false _ ?side1 ?side2 A10.out).mono ?_); (case side1 => repeat (first | exact (Kd.C_below HR222_0.out HB.out) | (with_reducible refine Kd.C_alloc ?_ _) | (with_reducible refine Kd.C_drewN ?_ _) | (with_reducible refine Kd.C_drew ?_))); (case side2 => exact HC222_0.out); rintro e w19 ⟨rfl, hb⟩; have n0_ := Aside0.mk (blk_below (hbk BK221.out) hb); have n1_ := Aside0.mk (below_step (hbl HB.out) hb); clear BK221; clear HB; have BK221 := n0_; have HB := n1_; clear n0_ n1_; (try clear hb); (try clear hb2); (try clear hk); (try clear hi)))
        go_roundg k1
        case measure => have := HK1.out; omega
        case rel => exact ⟨(wrap64 (x11_1 + 1)), hrf, H', ⟨by have := HK1.out; omega⟩, ⟨by (with_reducible repeat (first | refine blk_drewN ?_ _ | refine blk_drew ?_ | refine blk_alloc ?_ _)); exact BK221.out⟩, ⟨hbl HB.out⟩⟩
      ·
       replace c9 := Bool.eq_false_iff.mpr c9
       subst c9
       have H1 : (spec_Satisfies.l0 k1 a2 l0 (l0.length : Int) (wrap64 (x11_1 + 1)) a1_0 a1_1 a1_2 a1_3 a1_4) = some r := by rw [if_neg (show ¬ (false = true) by decide)] at H; exact H
       clear H
       have H := H1
       clear H1
       have H' := Aside0.mk H
       clear H
       have p222 : 0 ≤ (x11_1 : Int) := of_decide_eq_true (by assumption)
       have q222 : x11_1 < (l0.length : Int) := of_decide_eq_true (by assumption)
       obtain ⟨ad222, A222_0, c222_0, e222, hx222_0, hl222_0, hi222_0⟩ := at_L5 HR0.out x11_1 p222 q222
       cases e222
       replace hx222_0 := (HB.out.cell (World.block_lt_of_cell? w _ hx222_0)).trans hx222_0
       have HR222_0 := Aside0.mk hi222_0
       have HC222_0 := Aside0.mk hl222_0
       clear hi222_0 hl222_0
       replace p222 := eq_true p222
       replace q222 := eq_true q222
       have hcz20_0 : wr.cell? ⟨gb221, 0, none⟩ = some (.int .u64 a1_0) := (blk_cell BK221.out 0).trans rfl
       have hcz20_1 : wr.cell? ⟨gb221, 1, none⟩ = some (.int .u64 a1_1) := (blk_cell BK221.out 1).trans rfl
       have hcz20_2 : wr.cell? ⟨gb221, 2, none⟩ = some (.int .u64 a1_2) := (blk_cell BK221.out 2).trans rfl
       have hcz20_3 : wr.cell? ⟨gb221, 3, none⟩ = some (.string a1_3) := (blk_cell BK221.out 3).trans rfl
       have hcz20_4 : wr.cell? ⟨gb221, 4, none⟩ = some (.string a1_4) := (blk_cell BK221.out 4).trans rfl
       have hfz20_0 := blk_frozen BK221.out 0
       have hfz20_1 := blk_frozen BK221.out 1
       have hfz20_2 := blk_frozen BK221.out 2
       have hfz20_3 := blk_frozen BK221.out 3
       have hfz20_4 := blk_frozen BK221.out 4
       go_wp2_with (first | ((with_reducible refine gate_callee (f := 123) rfl ?_); refine goesL_ (some 18) rfl rfl Tryd.func123 (by kernel_rfl) rfl #[.slice A222_0 (rd_L5 l0 x11_1).length c222_0, .agg #[.int .u64 a1_0, .int .u64 a1_1, .int .u64 a1_2, .string a1_3, .string a1_4], .bool a2] rfl (by (try simp only [List.map_toArray, List.map_cons, List.map_nil]); first | done | rfl | (simp only [List.length_drop, List.length_take]; rfl)) ?_; (with_reducible refine (spec_LetsIn.calls k1 _ _ (rd_L5 l0 x11_1) a1_0 a1_1 a1_2 a1_3 a1_4 a2 false _ ?side1 ?side2 A8.out).mono ?_); (case side1 => repeat (first | exact (Kd.C_below HR222_0.out HB.out) | (with_reducible refine Kd.C_alloc ?_ _) | (with_reducible refine Kd.C_drewN ?_ _) | (with_reducible refine Kd.C_drew ?_))); (case side2 => exact HC222_0.out); rintro e w21 ⟨rfl, hb⟩; refine ⟨_, rfl, ?_⟩; have n0_ := Aside0.mk (blk_below (hbk BK221.out) hb); have n1_ := Aside0.mk (below_step (hbl HB.out) hb); clear BK221; clear HB; have BK221 := n0_; have HB := n1_; clear n0_ n1_; (try clear hb); (try clear hb2); (try clear hk); (try clear hi)))
       go_roundg k1
       case measure => have := HK1.out; omega
       case rel => exact ⟨(wrap64 (x11_1 + 1)), hrf, H', ⟨by have := HK1.out; omega⟩, ⟨by (with_reducible repeat (first | refine blk_drewN ?_ _ | refine blk_drew ?_ | refine blk_alloc ?_ _)); exact BK221.out⟩, ⟨hbl HB.out⟩⟩
     ·
      rw [if_neg c7] at H
      exact absurd H (by simp)
    ·
     rw [if_neg c6] at H
     exact absurd H (by simp)
   ·
    rw [if_neg c5] at H
    have c5b0 : decide (x11_1 < (l0.length : Int)) = false := decide_eq_false c5
    clear c5
    obtain rfl := Option.some.inj H
    go_wp2
    go_ret
    exact ⟨hrf, hbl HB.out⟩

end Go.Proofs.YtalpehfjjidfhaaDoor.MP
