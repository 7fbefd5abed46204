-- Written by a program of this session (wip/tools/myprint.py over the kit's print).
import Derived.Test.YtalpehfjjidfhaaDoorMPx0
import Derived.Test.YtalpehfjjidfhaaDoorMPx1
import Derived.Test.YtalpehfjjidfhaaDoorMPx5
namespace Go.Proofs.YtalpehfjjidfhaaDoor.MP
open Go.RowKit Go.Proofs.YtalpehfjjidfhaaDoorW.PrintWords Go.Proofs.YtalpehfjjidfhaaDoorW.PrintLast Go.Proofs.YtalpehfjjidfhaaDoorW.PrintMore Go.Proofs.YtalpehfjjidfhaaDoor
attribute [local go_sem] max2_int min2_int max_two min_two max_three min_three max_four min_four   -- for this text's walks alone
set_option linter.unusedVariables false
set_option linter.unusedSimpArgs false

/-! ### spec_AllSpoken: function 75 -/
mutual
def spec_AllSpoken.l0 : Nat → List (List (S42)) → Int → Int → Int → Int → Int → ByteArray → ByteArray → Option (Bool)
 | 0, _, _, _, _, _, _, _, _ => none
 | k + 1, x9, x10, x11, x162000, x162001, x162002, x162003, x162004 => if x11 < x10 then (if 0 ≤ x11 then (if x11 < (x9.length : Int) then (spec_AllSpoken.l1 k x9 x10 x11 (rd_L5 x9 x11) ((rd_L5 x9 x11).length : Int) 0 x162000 x162001 x162002 x162003 x162004) else (none)) else (none)) else (some true)
def spec_AllSpoken.l1 : Nat → List (List (S42)) → Int → Int → List (S42) → Int → Int → Int → Int → Int → ByteArray → ByteArray → Option (Bool)
 | 0, _, _, _, _, _, _, _, _, _, _, _ => none
 | k + 1, x9, x10, x11, x15, x16, x17, x162000, x162001, x162002, x162003, x162004 => if x17 < x16 then (if 0 ≤ x17 then (if x17 < (x15.length : Int) then ((spec_Spoken.f k ((rd_T42 x15 x17).f0) ((rd_T42 x15 x17).f1) ((rd_T42 x15 x17).f2) ((rd_T42 x15 x17).f3) ((rd_T42 x15 x17).f4) ((rd_T42 x15 x17).f5) x162000 x162001 x162002 x162003 x162004).bind fun t165 => (if t165 = true then (spec_AllSpoken.l1 k x9 x10 x11 x15 x16 (wrap64 (x17 + 1)) x162000 x162001 x162002 x162003 x162004) else (some false))) else (none)) else (none)) else (spec_AllSpoken.l0 k x9 x10 (wrap64 (x11 + 1)) x162000 x162001 x162002 x162003 x162004)
end
def spec_AllSpoken.f (k : Nat) (l0 : List (List (S42))) (a1_0 : Int) (a1_1 : Int) (a1_2 : Int) (a1_3 : ByteArray) (a1_4 : ByteArray) : Option (Bool) := spec_AllSpoken.l0 k l0 (l0.length : Int) 0 a1_0 a1_1 a1_2 a1_3 a1_4
theorem spec_AllSpoken.mono_l : ∀ k, (∀ y0 y1 y2 y3 y4 y5 y6 y7, LeO (spec_AllSpoken.l0 k y0 y1 y2 y3 y4 y5 y6 y7) (spec_AllSpoken.l0 (k + 1) y0 y1 y2 y3 y4 y5 y6 y7)) ∧ (∀ y0 y1 y2 y3 y4 y5 y6 y7 y8 y9 y10, LeO (spec_AllSpoken.l1 k y0 y1 y2 y3 y4 y5 y6 y7 y8 y9 y10) (spec_AllSpoken.l1 (k + 1) y0 y1 y2 y3 y4 y5 y6 y7 y8 y9 y10))
 | 0 => ⟨fun _ _ _ _ _ _ _ _ r h => by simp [spec_AllSpoken.l0] at h, fun _ _ _ _ _ _ _ _ _ _ _ r h => by simp [spec_AllSpoken.l1] at h⟩
 | k + 1 => by
  obtain ⟨ih0, ih1⟩ := spec_AllSpoken.mono_l k
  refine ⟨?_, ?_⟩
  ·
   intro y0 y1 y2 y3 y4 y5 y6 y7
   unfold spec_AllSpoken.l0
   repeat' first
   | (with_reducible exact ih0 _ _ _ _ _ _ _ _)
   | (with_reducible exact ih1 _ _ _ _ _ _ _ _ _ _ _)
   | (with_reducible exact spec_Spoken.mono _ _ _ _ _ _ _ _ _ _ _ _)
   | (with_reducible exact LeO.refl _)
   | (with_reducible exact LeO.none _)
   | (with_reducible refine LeO.ite ?_ ?_)
   | (with_reducible refine LeO.bind ?_ (fun _ => ?_))
   | exact ih0 _ _ _ _ _ _ _ _
   | exact ih1 _ _ _ _ _ _ _ _ _ _ _
   | exact spec_Spoken.mono _ _ _ _ _ _ _ _ _ _ _ _
   | exact LeO.none _
   | refine LeO.ite ?_ ?_
   | refine LeO.bind ?_ (fun _ => ?_)
  ·
   intro y0 y1 y2 y3 y4 y5 y6 y7 y8 y9 y10
   unfold spec_AllSpoken.l1
   repeat' first
   | (with_reducible exact ih0 _ _ _ _ _ _ _ _)
   | (with_reducible exact ih1 _ _ _ _ _ _ _ _ _ _ _)
   | (with_reducible exact spec_Spoken.mono _ _ _ _ _ _ _ _ _ _ _ _)
   | (with_reducible exact LeO.refl _)
   | (with_reducible exact LeO.none _)
   | (with_reducible refine LeO.ite ?_ ?_)
   | (with_reducible refine LeO.bind ?_ (fun _ => ?_))
   | exact ih0 _ _ _ _ _ _ _ _
   | exact ih1 _ _ _ _ _ _ _ _ _ _ _
   | exact spec_Spoken.mono _ _ _ _ _ _ _ _ _ _ _ _
   | exact LeO.none _
   | refine LeO.ite ?_ ?_
   | refine LeO.bind ?_ (fun _ => ?_)
theorem spec_AllSpoken.mono : ∀ a0 a1 a2 a3 a4 a5 k, LeO (spec_AllSpoken.f k a0 a1 a2 a3 a4 a5) (spec_AllSpoken.f (k + 1) a0 a1 a2 a3 a4 a5) := by
 intro a0 a1 a2 a3 a4 a5 k
 obtain ⟨ih0, ih1⟩ := spec_AllSpoken.mono_l k
 unfold spec_AllSpoken.f
 repeat' first
   | (with_reducible exact ih0 _ _ _ _ _ _ _ _)
   | (with_reducible exact ih1 _ _ _ _ _ _ _ _ _ _ _)
   | (with_reducible exact spec_Spoken.mono _ _ _ _ _ _ _ _ _ _ _ _)
   | (with_reducible exact LeO.refl _)
   | (with_reducible exact LeO.none _)
   | (with_reducible refine LeO.ite ?_ ?_)
   | (with_reducible refine LeO.bind ?_ (fun _ => ?_))
   | exact ih0 _ _ _ _ _ _ _ _
   | exact ih1 _ _ _ _ _ _ _ _ _ _ _
   | exact spec_Spoken.mono _ _ _ _ _ _ _ _ _ _ _ _
   | exact LeO.none _
   | refine LeO.ite ?_ ?_
   | refine LeO.bind ?_ (fun _ => ?_)
set_option maxHeartbeats 8000000 in
set_option maxRecDepth 100000 in
theorem spec_AllSpoken.calls (k : Nat) (A0 : Option Addr) (c0 : Nat) (l0 : List (List (S42))) (a1_0 : Int) (a1_1 : Int) (a1_2 : Int) (a1_3 : ByteArray) (a1_4 : ByteArray) (r : Bool) (w : World) (hr0 : Kd.C (Kd.slice 42 k42) w A0 l0.length l0) (hc0 : l0.length ≤ c0) (h : spec_AllSpoken.f k l0 a1_0 a1_1 a1_2 a1_3 a1_4 = some r) :
  Calls Tryd.prog 75 #[.slice A0 l0.length c0, .agg #[.int .u64 a1_0, .int .u64 a1_1, .int .u64 a1_2, .string a1_3, .string a1_4]] w fun e w' => e = .returned (.bool r) ∧ Below w.heap.size w w' := by
 have hu29 := Tryd.underlying29
 have hu42 := Tryd.underlying42
 have HR0 := Aside0.mk hr0
 have HC0 := Aside0.mk hc0
 clear hr0 hc0
 have HB := Aside0.mk (Below.refl w.heap.size w)
 have H : (spec_AllSpoken.l0 k l0 (l0.length : Int) 0 a1_0 a1_1 a1_2 a1_3 a1_4) = some r := h
 clear h
 have H' := Aside0.mk H
 clear H
 go_enter Tryd.func75, Tryd.ntmps75
 go_wp2_with (first | ((with_reducible refine gate_dst (N := 3) rfl ?_); refine box_event ?hg (N := 3) ?hd (cs := #[.int .u64 a1_0, .int .u64 a1_1, .int .u64 a1_2, .string a1_3, .string a1_4]) (t := 29) ?hr ?_; (case hd => rfl); (case hg => rfl); (case hr => first | (go_simp; done) | (go_simp; rfl)); intro gb161 hg w3 hbox hb; have n0_ := Aside0.mk (below_step (hbl HB.out) hb); have n1_ := Aside0.mk (hbox); have n2_ := Aside0.mk ((by rw [hg]; exact (below_size (hbl HB.out)) : w.heap.size ≤ gb161)); have n3_ := Aside0.mk ((by rw [hg]; exact (below_size (hbl HB.out)) : w.heap.size ≤ gb161)); clear HB; have HB := n0_; have BK161 := n1_; have GW161 := n2_; have GE161 := n3_; clear n0_ n1_ n2_ n3_; clear hb hbox hg))
 go_loopg [11] k (fun kq v11 w' => ∃ (x11_1 : Int), v11 = .int .i64 x11_1 ∧ Aside0 (spec_AllSpoken.l0 kq l0 (l0.length : Int) x11_1 a1_0 a1_1 a1_2 a1_3 a1_4 = some r) ∧ Aside0 (kq ≤ k) ∧ Aside0 (w'.heap[gb161]? = some (.cells #[.int .u64 a1_0, .int .u64 a1_1, .int .u64 a1_2, .string a1_3, .string a1_4] 29 (0, 0))) ∧ Aside0 (Below w.heap.size w w'))
 case atStart => exact ⟨(0), hrf, H', ⟨Nat.le_refl _⟩, ⟨by (with_reducible repeat (first | refine blk_drewN ?_ _ | refine blk_drew ?_ | refine blk_alloc ?_ _)); exact BK161.out⟩, ⟨hbl HB.out⟩⟩
 case round =>
  clear H'
  try clear p2
  obtain ⟨x11_1, rfl, HA, HK1, BK161, HB⟩ := hrel
  cases gk with
  | zero => exact absurd HA.out (by simp [spec_AllSpoken.l0])
  | succ k1 =>
   have H := HA.out
   clear HA
   simp only [spec_AllSpoken.l0] at H
   by_cases c4 : x11_1 < (l0.length : Int)
   ·
    rw [if_pos c4] at H
    have c4b0 : decide (x11_1 < (l0.length : Int)) = true := decide_eq_true c4
    clear c4
    by_cases c5 : 0 ≤ x11_1
    ·
     rw [if_pos c5] at H
     have c5b0 : decide (0 ≤ x11_1) = true := decide_eq_true c5
     clear c5
     by_cases c6 : x11_1 < (l0.length : Int)
     ·
      rw [if_pos c6] at H
      have c6b0 : decide (x11_1 < (l0.length : Int)) = true := decide_eq_true c6
      clear c6
      have H' := Aside0.mk H
      clear H
      have p162 : 0 ≤ (x11_1 : Int) := of_decide_eq_true (by assumption)
      have q162 : x11_1 < (l0.length : Int) := of_decide_eq_true (by assumption)
      obtain ⟨ad162, A162_0, c162_0, e162, hx162_0, hl162_0, hi162_0⟩ := at_L5 HR0.out x11_1 p162 q162
      cases e162
      replace hx162_0 := (HB.out.cell (World.block_lt_of_cell? w _ hx162_0)).trans hx162_0
      have HR162_0 := Aside0.mk hi162_0
      have HC162_0 := Aside0.mk hl162_0
      clear hi162_0 hl162_0
      replace p162 := eq_true p162
      replace q162 := eq_true q162
      go_wp2
      go_loopg [17] k1 (fun kq v17 w' => ∃ (x17_2 : Int), v17 = .int .i64 x17_2 ∧ Aside0 (spec_AllSpoken.l1 kq l0 (l0.length : Int) x11_1 (rd_L5 l0 x11_1) ((rd_L5 l0 x11_1).length : Int) x17_2 a1_0 a1_1 a1_2 a1_3 a1_4 = some r) ∧ Aside0 (kq ≤ k1) ∧ Aside0 (w'.heap[gb161]? = some (.cells #[.int .u64 a1_0, .int .u64 a1_1, .int .u64 a1_2, .string a1_3, .string a1_4] 29 (0, 0))) ∧ Aside0 (Below w.heap.size w w'))
      case atStart => exact ⟨(0), hrf, H', ⟨Nat.le_refl _⟩, ⟨by (with_reducible repeat (first | refine blk_drewN ?_ _ | refine blk_drew ?_ | refine blk_alloc ?_ _)); exact BK161.out⟩, ⟨hbl HB.out⟩⟩
      case round =>
       clear H'
       try clear c1
       try clear p1
       try clear q1
       try clear hx1
       try clear p2
       try clear c4
       try clear c4b0
       try clear c5
       try clear c5b0
       try clear c6
       try clear c6b0
       try clear hx162_0
       try clear p162
       try clear p2
       try clear q162
       obtain ⟨x17_2, rfl, HA, HK2, BK161, HB⟩ := hrel
       cases gk with
       | zero => exact absurd HA.out (by simp [spec_AllSpoken.l1])
       | succ k2 =>
        have H := HA.out
        clear HA
        simp only [spec_AllSpoken.l1] at H
        by_cases c7 : x17_2 < ((rd_L5 l0 x11_1).length : Int)
        ·
         rw [if_pos c7] at H
         have c7b0 : decide (x17_2 < ((rd_L5 l0 x11_1).length : Int)) = true := decide_eq_true c7
         clear c7
         by_cases c8 : 0 ≤ x17_2
         ·
          rw [if_pos c8] at H
          have c8b0 : decide (0 ≤ x17_2) = true := decide_eq_true c8
          clear c8
          by_cases c9 : x17_2 < ((rd_L5 l0 x11_1).length : Int)
          ·
           rw [if_pos c9] at H
           have c9b0 : decide (x17_2 < ((rd_L5 l0 x11_1).length : Int)) = true := decide_eq_true c9
           clear c9
           replace H := Option.bind_eq_some_iff.mp H
           obtain ⟨t165, A100, H⟩ := H
           replace H : (if t165 = true then (spec_AllSpoken.l1 k2 l0 (l0.length : Int) x11_1 (rd_L5 l0 x11_1) ((rd_L5 l0 x11_1).length : Int) (wrap64 (x17_2 + 1)) a1_0 a1_1 a1_2 a1_3 a1_4) else (some false)) = some r := H
           have A10 := Aside0.mk A100
           clear A100
           by_cases c11 : t165 = true
           ·
            subst c11
            have H1 : (spec_AllSpoken.l1 k2 l0 (l0.length : Int) x11_1 (rd_L5 l0 x11_1) ((rd_L5 l0 x11_1).length : Int) (wrap64 (x17_2 + 1)) a1_0 a1_1 a1_2 a1_3 a1_4) = some r := by rw [if_pos rfl] at H; exact H
            clear H
            have H := H1
            clear H1
            have H' := Aside0.mk H
            clear H
            have p163 : 0 ≤ (x17_2 : Int) := of_decide_eq_true (by assumption)
            have q163 : x17_2 < ((rd_L5 l0 x11_1).length : Int) := of_decide_eq_true (by assumption)
            obtain ⟨ad163, e163, hx163_0, hx163_1, hx163_2, hx163_3, hx163_4, hx163_5⟩ := at_T42 HR162_0.out x17_2 p163 q163
            cases e163
            replace hx163_0 := (HB.out.cell (World.block_lt_of_cell? w _ hx163_0)).trans hx163_0
            replace hx163_1 := (HB.out.cell (World.block_lt_of_cell? w _ hx163_1)).trans hx163_1
            replace hx163_2 := (HB.out.cell (World.block_lt_of_cell? w _ hx163_2)).trans hx163_2
            replace hx163_3 := (HB.out.cell (World.block_lt_of_cell? w _ hx163_3)).trans hx163_3
            replace hx163_4 := (HB.out.cell (World.block_lt_of_cell? w _ hx163_4)).trans hx163_4
            replace hx163_5 := (HB.out.cell (World.block_lt_of_cell? w _ hx163_5)).trans hx163_5
            replace p163 := eq_true p163
            replace q163 := eq_true q163
            go_wp2_with (first | ((with_reducible refine gate_dst (N := 8) rfl ?_); refine box_event ?hg (N := 8) ?hd (cs := #[.int .i64 0, .int .i64 0, .int .u64 0, .int .u64 0, .int .u64 0, .string (⟨#[]⟩ : ByteArray)]) (t := 42) ?hr ?_; (case hd => rfl); (case hg => rfl); (case hr => first | (go_simp; done) | (go_simp; rfl)); intro gb164 hg w12 hbox hb; have n0_ := Aside0.mk (blk_below (hbk BK161.out) hb); have n1_ := Aside0.mk (below_step (hbl HB.out) hb); have n2_ := Aside0.mk (hbox); have n3_ := Aside0.mk ((by rw [hg]; exact (below_size (hbl HB.out)) : w.heap.size ≤ gb164)); have n4_ := Aside0.mk ((by rw [hg]; exact (below_size (hbl HB.out)) : w.heap.size ≤ gb164)); have n5_ := Aside0.mk ((by rw [hg]; exact Nat.ne_of_lt (blk_lt (hbk BK161.out)) : gb161 ≠ gb164)); have n6_ := Aside0.mk ((by rw [hg]; exact Nat.ne_of_gt (blk_lt (hbk BK161.out)) : gb164 ≠ gb161)); clear BK161; clear HB; have BK161 := n0_; have HB := n1_; have BK164 := n2_; have GW164 := n3_; have GE164 := n4_; have NB161_164 := n5_; have NB164_161 := n6_; clear n0_ n1_ n2_ n3_ n4_ n5_ n6_; clear hb hbox hg; have hnb13 := NB164_161.out; have hnc13 := NB161_164.out; have hcz14_0 : w12.cell? ⟨gb164, 0, none⟩ = some (.int .i64 0) := (blk_cell BK164.out 0).trans rfl; have hcz14_1 : w12.cell? ⟨gb164, 1, none⟩ = some (.int .i64 0) := (blk_cell BK164.out 1).trans rfl; have hcz14_2 : w12.cell? ⟨gb164, 2, none⟩ = some (.int .u64 0) := (blk_cell BK164.out 2).trans rfl; have hcz14_3 : w12.cell? ⟨gb164, 3, none⟩ = some (.int .u64 0) := (blk_cell BK164.out 3).trans rfl; have hcz14_4 : w12.cell? ⟨gb164, 4, none⟩ = some (.int .u64 0) := (blk_cell BK164.out 4).trans rfl; have hcz14_5 : w12.cell? ⟨gb164, 5, none⟩ = some (.string (⟨#[]⟩ : ByteArray)) := (blk_cell BK164.out 5).trans rfl; have hfz14_0 := blk_frozen BK164.out 0; have hfz14_1 := blk_frozen BK164.out 1; have hfz14_2 := blk_frozen BK164.out 2; have hfz14_3 := blk_frozen BK164.out 3; have hfz14_4 := blk_frozen BK164.out 4; have hfz14_5 := blk_frozen BK164.out 5; have hcz15_0 : w12.cell? ⟨gb161, 0, none⟩ = some (.int .u64 a1_0) := (blk_cell BK161.out 0).trans rfl; have hcz15_1 : w12.cell? ⟨gb161, 1, none⟩ = some (.int .u64 a1_1) := (blk_cell BK161.out 1).trans rfl; have hcz15_2 : w12.cell? ⟨gb161, 2, none⟩ = some (.int .u64 a1_2) := (blk_cell BK161.out 2).trans rfl; have hcz15_3 : w12.cell? ⟨gb161, 3, none⟩ = some (.string a1_3) := (blk_cell BK161.out 3).trans rfl; have hcz15_4 : w12.cell? ⟨gb161, 4, none⟩ = some (.string a1_4) := (blk_cell BK161.out 4).trans rfl; have hfz15_0 := blk_frozen BK161.out 0; have hfz15_1 := blk_frozen BK161.out 1; have hfz15_2 := blk_frozen BK161.out 2; have hfz15_3 := blk_frozen BK161.out 3; have hfz15_4 := blk_frozen BK161.out 4) | ((with_reducible refine gate_callee (f := 92) rfl ?_); refine goesL_ (some 23) rfl rfl Tryd.func92 (by kernel_rfl) rfl #[.agg #[.int .i64 ((rd_T42 (rd_L5 l0 x11_1) x17_2).f0), .int .i64 ((rd_T42 (rd_L5 l0 x11_1) x17_2).f1), .int .u64 ((rd_T42 (rd_L5 l0 x11_1) x17_2).f2), .int .u64 ((rd_T42 (rd_L5 l0 x11_1) x17_2).f3), .int .u64 ((rd_T42 (rd_L5 l0 x11_1) x17_2).f4), .string ((rd_T42 (rd_L5 l0 x11_1) x17_2).f5)], .agg #[.int .u64 a1_0, .int .u64 a1_1, .int .u64 a1_2, .string a1_3, .string a1_4]] rfl (by (try simp only [List.map_toArray, List.map_cons, List.map_nil]); first | done | rfl | (simp only [List.length_drop, List.length_take]; rfl)) ?_; (with_reducible refine (spec_Spoken.calls k2 ((rd_T42 (rd_L5 l0 x11_1) x17_2).f0) ((rd_T42 (rd_L5 l0 x11_1) x17_2).f1) ((rd_T42 (rd_L5 l0 x11_1) x17_2).f2) ((rd_T42 (rd_L5 l0 x11_1) x17_2).f3) ((rd_T42 (rd_L5 l0 x11_1) x17_2).f4) ((rd_T42 (rd_L5 l0 x11_1) x17_2).f5) a1_0 a1_1 a1_2 a1_3 a1_4 true _ A10.out).mono ?_); rintro e w16 ⟨rfl, hb⟩; refine ⟨_, rfl, ?_⟩; have n0_ := Aside0.mk (blk_below (g := gb161) (o := .cells #[.int .u64 a1_0, .int .u64 a1_1, .int .u64 a1_2, .string a1_3, .string a1_4] 29 (0, 0)) (by (with_reducible repeat (first | refine blk_drewN ?_ _ | refine blk_drew ?_ | refine blk_alloc ?_ _)); refine blk_far ?_ NB161_164.out _; (with_reducible repeat (first | refine blk_drewN ?_ _ | refine blk_drew ?_ | refine blk_alloc ?_ _)); refine blk_far ?_ NB161_164.out _; (with_reducible repeat (first | refine blk_drewN ?_ _ | refine blk_drew ?_ | refine blk_alloc ?_ _)); refine blk_far ?_ NB161_164.out _; (with_reducible repeat (first | refine blk_drewN ?_ _ | refine blk_drew ?_ | refine blk_alloc ?_ _)); refine blk_far ?_ NB161_164.out _; (with_reducible repeat (first | refine blk_drewN ?_ _ | refine blk_drew ?_ | refine blk_alloc ?_ _)); refine blk_far ?_ NB161_164.out _; (with_reducible repeat (first | refine blk_drewN ?_ _ | refine blk_drew ?_ | refine blk_alloc ?_ _)); refine blk_far ?_ NB161_164.out _; (with_reducible repeat (first | refine blk_drewN ?_ _ | refine blk_drew ?_ | refine blk_alloc ?_ _)); exact BK161.out) hb); have n1_ := Aside0.mk (blk_below (g := gb164) (o := .cells #[.int .i64 ((rd_T42 (rd_L5 l0 x11_1) x17_2).f0), .int .i64 ((rd_T42 (rd_L5 l0 x11_1) x17_2).f1), .int .u64 ((rd_T42 (rd_L5 l0 x11_1) x17_2).f2), .int .u64 ((rd_T42 (rd_L5 l0 x11_1) x17_2).f3), .int .u64 ((rd_T42 (rd_L5 l0 x11_1) x17_2).f4), .string ((rd_T42 (rd_L5 l0 x11_1) x17_2).f5)] 42 (0, 0)) (by (with_reducible repeat (first | refine blk_drewN ?_ _ | refine blk_drew ?_ | refine blk_alloc ?_ _)); refine blk_put (cs := #[.int .i64 ((rd_T42 (rd_L5 l0 x11_1) x17_2).f0), .int .i64 ((rd_T42 (rd_L5 l0 x11_1) x17_2).f1), .int .u64 ((rd_T42 (rd_L5 l0 x11_1) x17_2).f2), .int .u64 ((rd_T42 (rd_L5 l0 x11_1) x17_2).f3), .int .u64 ((rd_T42 (rd_L5 l0 x11_1) x17_2).f4), .string (⟨#[]⟩ : ByteArray)]) ?_ 5 _ rfl; (with_reducible repeat (first | refine blk_drewN ?_ _ | refine blk_drew ?_ | refine blk_alloc ?_ _)); refine blk_put (cs := #[.int .i64 ((rd_T42 (rd_L5 l0 x11_1) x17_2).f0), .int .i64 ((rd_T42 (rd_L5 l0 x11_1) x17_2).f1), .int .u64 ((rd_T42 (rd_L5 l0 x11_1) x17_2).f2), .int .u64 ((rd_T42 (rd_L5 l0 x11_1) x17_2).f3), .int .u64 0, .string (⟨#[]⟩ : ByteArray)]) ?_ 4 _ rfl; (with_reducible repeat (first | refine blk_drewN ?_ _ | refine blk_drew ?_ | refine blk_alloc ?_ _)); refine blk_put (cs := #[.int .i64 ((rd_T42 (rd_L5 l0 x11_1) x17_2).f0), .int .i64 ((rd_T42 (rd_L5 l0 x11_1) x17_2).f1), .int .u64 ((rd_T42 (rd_L5 l0 x11_1) x17_2).f2), .int .u64 0, .int .u64 0, .string (⟨#[]⟩ : ByteArray)]) ?_ 3 _ rfl; (with_reducible repeat (first | refine blk_drewN ?_ _ | refine blk_drew ?_ | refine blk_alloc ?_ _)); refine blk_put (cs := #[.int .i64 ((rd_T42 (rd_L5 l0 x11_1) x17_2).f0), .int .i64 ((rd_T42 (rd_L5 l0 x11_1) x17_2).f1), .int .u64 0, .int .u64 0, .int .u64 0, .string (⟨#[]⟩ : ByteArray)]) ?_ 2 _ rfl; (with_reducible repeat (first | refine blk_drewN ?_ _ | refine blk_drew ?_ | refine blk_alloc ?_ _)); refine blk_put (cs := #[.int .i64 ((rd_T42 (rd_L5 l0 x11_1) x17_2).f0), .int .i64 0, .int .u64 0, .int .u64 0, .int .u64 0, .string (⟨#[]⟩ : ByteArray)]) ?_ 1 _ rfl; (with_reducible repeat (first | refine blk_drewN ?_ _ | refine blk_drew ?_ | refine blk_alloc ?_ _)); refine blk_put (cs := #[.int .i64 0, .int .i64 0, .int .u64 0, .int .u64 0, .int .u64 0, .string (⟨#[]⟩ : ByteArray)]) ?_ 0 _ rfl; (with_reducible repeat (first | refine blk_drewN ?_ _ | refine blk_drew ?_ | refine blk_alloc ?_ _)); exact BK164.out) hb); have n2_ := Aside0.mk (below_step (hbl HB.out) hb); clear BK161; clear BK164; clear HB; have BK161 := n0_; have BK164 := n1_; have HB := n2_; clear n0_ n1_ n2_; (try clear hb); (try clear hb2); (try clear hk); (try clear hi)))
            go_roundg k2
            case measure => have := HK1.out; have := HK2.out; omega
            case rel => exact ⟨(wrap64 (x17_2 + 1)), hrf, H', ⟨by have := HK1.out; have := HK2.out; omega⟩, ⟨by (with_reducible repeat (first | refine blk_drewN ?_ _ | refine blk_drew ?_ | refine blk_alloc ?_ _)); exact BK161.out⟩, ⟨hbl HB.out⟩⟩
           ·
            replace c11 := Bool.eq_false_iff.mpr c11
            subst c11
            have H1 : (some false) = some r := by rw [if_neg (show ¬ (false = true) by decide)] at H; exact H
            clear H
            have H := H1
            clear H1
            obtain rfl := Option.some.inj H
            have p163 : 0 ≤ (x17_2 : Int) := of_decide_eq_true (by assumption)
            have q163 : x17_2 < ((rd_L5 l0 x11_1).length : Int) := of_decide_eq_true (by assumption)
            obtain ⟨ad163, e163, hx163_0, hx163_1, hx163_2, hx163_3, hx163_4, hx163_5⟩ := at_T42 HR162_0.out x17_2 p163 q163
            cases e163
            replace hx163_0 := (HB.out.cell (World.block_lt_of_cell? w _ hx163_0)).trans hx163_0
            replace hx163_1 := (HB.out.cell (World.block_lt_of_cell? w _ hx163_1)).trans hx163_1
            replace hx163_2 := (HB.out.cell (World.block_lt_of_cell? w _ hx163_2)).trans hx163_2
            replace hx163_3 := (HB.out.cell (World.block_lt_of_cell? w _ hx163_3)).trans hx163_3
            replace hx163_4 := (HB.out.cell (World.block_lt_of_cell? w _ hx163_4)).trans hx163_4
            replace hx163_5 := (HB.out.cell (World.block_lt_of_cell? w _ hx163_5)).trans hx163_5
            replace p163 := eq_true p163
            replace q163 := eq_true q163
            go_wp2_with (first | ((with_reducible refine gate_dst (N := 8) rfl ?_); refine box_event ?hg (N := 8) ?hd (cs := #[.int .i64 0, .int .i64 0, .int .u64 0, .int .u64 0, .int .u64 0, .string (⟨#[]⟩ : ByteArray)]) (t := 42) ?hr ?_; (case hd => rfl); (case hg => rfl); (case hr => first | (go_simp; done) | (go_simp; rfl)); intro gb164 hg w17 hbox hb; have n0_ := Aside0.mk (blk_below (hbk BK161.out) hb); have n1_ := Aside0.mk (below_step (hbl HB.out) hb); have n2_ := Aside0.mk (hbox); have n3_ := Aside0.mk ((by rw [hg]; exact (below_size (hbl HB.out)) : w.heap.size ≤ gb164)); have n4_ := Aside0.mk ((by rw [hg]; exact (below_size (hbl HB.out)) : w.heap.size ≤ gb164)); have n5_ := Aside0.mk ((by rw [hg]; exact Nat.ne_of_lt (blk_lt (hbk BK161.out)) : gb161 ≠ gb164)); have n6_ := Aside0.mk ((by rw [hg]; exact Nat.ne_of_gt (blk_lt (hbk BK161.out)) : gb164 ≠ gb161)); clear BK161; clear HB; have BK161 := n0_; have HB := n1_; have BK164 := n2_; have GW164 := n3_; have GE164 := n4_; have NB161_164 := n5_; have NB164_161 := n6_; clear n0_ n1_ n2_ n3_ n4_ n5_ n6_; clear hb hbox hg; have hnb18 := NB164_161.out; have hnc18 := NB161_164.out; have hcz19_0 : w17.cell? ⟨gb164, 0, none⟩ = some (.int .i64 0) := (blk_cell BK164.out 0).trans rfl; have hcz19_1 : w17.cell? ⟨gb164, 1, none⟩ = some (.int .i64 0) := (blk_cell BK164.out 1).trans rfl; have hcz19_2 : w17.cell? ⟨gb164, 2, none⟩ = some (.int .u64 0) := (blk_cell BK164.out 2).trans rfl; have hcz19_3 : w17.cell? ⟨gb164, 3, none⟩ = some (.int .u64 0) := (blk_cell BK164.out 3).trans rfl; have hcz19_4 : w17.cell? ⟨gb164, 4, none⟩ = some (.int .u64 0) := (blk_cell BK164.out 4).trans rfl; have hcz19_5 : w17.cell? ⟨gb164, 5, none⟩ = some (.string (⟨#[]⟩ : ByteArray)) := (blk_cell BK164.out 5).trans rfl; have hfz19_0 := blk_frozen BK164.out 0; have hfz19_1 := blk_frozen BK164.out 1; have hfz19_2 := blk_frozen BK164.out 2; have hfz19_3 := blk_frozen BK164.out 3; have hfz19_4 := blk_frozen BK164.out 4; have hfz19_5 := blk_frozen BK164.out 5; have hcz20_0 : w17.cell? ⟨gb161, 0, none⟩ = some (.int .u64 a1_0) := (blk_cell BK161.out 0).trans rfl; have hcz20_1 : w17.cell? ⟨gb161, 1, none⟩ = some (.int .u64 a1_1) := (blk_cell BK161.out 1).trans rfl; have hcz20_2 : w17.cell? ⟨gb161, 2, none⟩ = some (.int .u64 a1_2) := (blk_cell BK161.out 2).trans rfl; have hcz20_3 : w17.cell? ⟨gb161, 3, none⟩ = some (.string a1_3) := (blk_cell BK161.out 3).trans rfl; have hcz20_4 : w17.cell? ⟨gb161, 4, none⟩ = some (.string a1_4) := (blk_cell BK161.out 4).trans rfl; have hfz20_0 := blk_frozen BK161.out 0; have hfz20_1 := blk_frozen BK161.out 1; have hfz20_2 := blk_frozen BK161.out 2; have hfz20_3 := blk_frozen BK161.out 3; have hfz20_4 := blk_frozen BK161.out 4) | ((with_reducible refine gate_callee (f := 92) rfl ?_); refine goesL_ (some 23) rfl rfl Tryd.func92 (by kernel_rfl) rfl #[.agg #[.int .i64 ((rd_T42 (rd_L5 l0 x11_1) x17_2).f0), .int .i64 ((rd_T42 (rd_L5 l0 x11_1) x17_2).f1), .int .u64 ((rd_T42 (rd_L5 l0 x11_1) x17_2).f2), .int .u64 ((rd_T42 (rd_L5 l0 x11_1) x17_2).f3), .int .u64 ((rd_T42 (rd_L5 l0 x11_1) x17_2).f4), .string ((rd_T42 (rd_L5 l0 x11_1) x17_2).f5)], .agg #[.int .u64 a1_0, .int .u64 a1_1, .int .u64 a1_2, .string a1_3, .string a1_4]] rfl (by (try simp only [List.map_toArray, List.map_cons, List.map_nil]); first | done | rfl | (simp only [List.length_drop, List.length_take]; rfl)) ?_; (with_reducible refine (spec_Spoken.calls k2 ((rd_T42 (rd_L5 l0 x11_1) x17_2).f0) ((rd_T42 (rd_L5 l0 x11_1) x17_2).f1) ((rd_T42 (rd_L5 l0 x11_1) x17_2).f2) ((rd_T42 (rd_L5 l0 x11_1) x17_2).f3) ((rd_T42 (rd_L5 l0 x11_1) x17_2).f4) ((rd_T42 (rd_L5 l0 x11_1) x17_2).f5) a1_0 a1_1 a1_2 a1_3 a1_4 false _ A10.out).mono ?_); rintro e w21 ⟨rfl, hb⟩; refine ⟨_, rfl, ?_⟩; have n0_ := Aside0.mk (blk_below (g := gb161) (o := .cells #[.int .u64 a1_0, .int .u64 a1_1, .int .u64 a1_2, .string a1_3, .string a1_4] 29 (0, 0)) (by (with_reducible repeat (first | refine blk_drewN ?_ _ | refine blk_drew ?_ | refine blk_alloc ?_ _)); refine blk_far ?_ NB161_164.out _; (with_reducible repeat (first | refine blk_drewN ?_ _ | refine blk_drew ?_ | refine blk_alloc ?_ _)); refine blk_far ?_ NB161_164.out _; (with_reducible repeat (first | refine blk_drewN ?_ _ | refine blk_drew ?_ | refine blk_alloc ?_ _)); refine blk_far ?_ NB161_164.out _; (with_reducible repeat (first | refine blk_drewN ?_ _ | refine blk_drew ?_ | refine blk_alloc ?_ _)); refine blk_far ?_ NB161_164.out _; (with_reducible repeat (first | refine blk_drewN ?_ _ | refine blk_drew ?_ | refine blk_alloc ?_ _)); refine blk_far ?_ NB161_164.out _; (with_reducible repeat (first | refine blk_drewN ?_ _ | refine blk_drew ?_ | refine blk_alloc ?_ _)); refine blk_far ?_ NB161_164.out _; (with_reducible repeat (first | refine blk_drewN ?_ _ | refine blk_drew ?_ | refine blk_alloc ?_ _)); exact BK161.out) hb); have n1_ := Aside0.mk (blk_below (g := gb164) (o := .cells #[.int .i64 ((rd_T42 (rd_L5 l0 x11_1) x17_2).f0), .int .i64 ((rd_T42 (rd_L5 l0 x11_1) x17_2).f1), .int .u64 ((rd_T42 (rd_L5 l0 x11_1) x17_2).f2), .int .u64 ((rd_T42 (rd_L5 l0 x11_1) x17_2).f3), .int .u64 ((rd_T42 (rd_L5 l0 x11_1) x17_2).f4), .string ((rd_T42 (rd_L5 l0 x11_1) x17_2).f5)] 42 (0, 0)) (by (with_reducible repeat (first | refine blk_drewN ?_ _ | refine blk_drew ?_ | refine blk_alloc ?_ _)); refine blk_put (cs := #[.int .i64 ((rd_T42 (rd_L5 l0 x11_1) x17_2).f0), .int .i64 ((rd_T42 (rd_L5 l0 x11_1) x17_2).f1), .int .u64 ((rd_T42 (rd_L5 l0 x11_1) x17_2).f2), .int .u64 ((rd_T42 (rd_L5 l0 x11_1) x17_2).f3), .int .u64 ((rd_T42 (rd_L5 l0 x11_1) x17_2).f4), .string (⟨#[]⟩ : ByteArray)]) ?_ 5 _ rfl; (with_reducible repeat (first | refine blk_drewN ?_ _ | refine blk_drew ?_ | refine blk_alloc ?_ _)); refine blk_put (cs := #[.int .i64 ((rd_T42 (rd_L5 l0 x11_1) x17_2).f0), .int .i64 ((rd_T42 (rd_L5 l0 x11_1) x17_2).f1), .int .u64 ((rd_T42 (rd_L5 l0 x11_1) x17_2).f2), .int .u64 ((rd_T42 (rd_L5 l0 x11_1) x17_2).f3), .int .u64 0, .string (⟨#[]⟩ : ByteArray)]) ?_ 4 _ rfl; (with_reducible repeat (first | refine blk_drewN ?_ _ | refine blk_drew ?_ | refine blk_alloc ?_ _)); refine blk_put (cs := #[.int .i64 ((rd_T42 (rd_L5 l0 x11_1) x17_2).f0), .int .i64 ((rd_T42 (rd_L5 l0 x11_1) x17_2).f1), .int .u64 ((rd_T42 (rd_L5 l0 x11_1) x17_2).f2), .int .u64 0, .int .u64 0, .string (⟨#[]⟩ : ByteArray)]) ?_ 3 _ rfl; (with_reducible repeat (first | refine blk_drewN ?_ _ | refine blk_drew ?_ | refine blk_alloc ?_ _)); refine blk_put (cs := #[.int .i64 ((rd_T42 (rd_L5 l0 x11_1) x17_2).f0), .int .i64 ((rd_T42 (rd_L5 l0 x11_1) x17_2).f1), .int .u64 0, .int .u64 0, .int .u64 0, .string (⟨#[]⟩ : ByteArray)]) ?_ 2 _ rfl; (with_reducible repeat (first | refine blk_drewN ?_ _ | refine blk_drew ?_ | refine blk_alloc ?_ _)); refine blk_put (cs := #[.int .i64 ((rd_T42 (rd_L5 l0 x11_1) x17_2).f0), .int .i64 0, .int .u64 0, .int .u64 0, .int .u64 0, .string (⟨#[]⟩ : ByteArray)]) ?_ 1 _ rfl; (with_reducible repeat (first | refine blk_drewN ?_ _ | refine blk_drew ?_ | refine blk_alloc ?_ _)); refine blk_put (cs := #[.int .i64 0, .int .i64 0, .int .u64 0, .int .u64 0, .int .u64 0, .string (⟨#[]⟩ : ByteArray)]) ?_ 0 _ rfl; (with_reducible repeat (first | refine blk_drewN ?_ _ | refine blk_drew ?_ | refine blk_alloc ?_ _)); exact BK164.out) hb); have n2_ := Aside0.mk (below_step (hbl HB.out) hb); clear BK161; clear BK164; clear HB; have BK161 := n0_; have BK164 := n1_; have HB := n2_; clear n0_ n1_ n2_; (try clear hb); (try clear hb2); (try clear hk); (try clear hi)))
            go_ret
            exact ⟨hrf, hbl HB.out⟩
          ·
           rw [if_neg c9] at H
           exact absurd H (by simp)
         ·
          rw [if_neg c8] at H
          exact absurd H (by simp)
        ·
         rw [if_neg c7] at H
         have c7b0 : decide (x17_2 < ((rd_L5 l0 x11_1).length : Int)) = false := decide_eq_false c7
         clear c7
         have H' := Aside0.mk H
         clear H
         go_wp2
         go_roundg k2
         case measure => have := HK1.out; have := HK2.out; omega
         case rel => exact ⟨(wrap64 (x11_1 + 1)), hrf, H', ⟨by have := HK1.out; have := HK2.out; omega⟩, ⟨by (with_reducible repeat (first | refine blk_drewN ?_ _ | refine blk_drew ?_ | refine blk_alloc ?_ _)); exact BK161.out⟩, ⟨hbl HB.out⟩⟩
     ·
      rw [if_neg c6] at H
      exact absurd H (by simp)
    ·
     rw [if_neg c5] at H
     exact absurd H (by simp)
   ·
    rw [if_neg c4] at H
    have c4b0 : decide (x11_1 < (l0.length : Int)) = false := decide_eq_false c4
    clear c4
    obtain rfl := Option.some.inj H
    go_wp2
    go_ret
    exact ⟨hrf, hbl HB.out⟩

/-! ### spec_HasPre: function 158 -/
def spec_HasPre.l0 : Nat → List (S42) → Int → Int → Option (Bool)
 | 0, _, _, _ => none
 | k + 1, x5, x6, x7 => if x7 < x6 then (if 0 ≤ x7 then (if x7 < (x5.length : Int) then (if ((rd_T42 x5 x7).f5).toList = ([] : List UInt8) then (spec_HasPre.l0 k x5 x6 (wrap64 (x7 + 1))) else (some true)) else (none)) else (none)) else (some false)
def spec_HasPre.f (k : Nat) (l0 : List (S42)) : Option (Bool) := spec_HasPre.l0 k l0 (l0.length : Int) 0
theorem spec_HasPre.mono_l : ∀ k, (∀ y0 y1 y2, LeO (spec_HasPre.l0 k y0 y1 y2) (spec_HasPre.l0 (k + 1) y0 y1 y2))
 | 0 => fun _ _ _ r h => by simp [spec_HasPre.l0] at h
 | k + 1 => by
  have ih0 := spec_HasPre.mono_l k
  ·
   intro y0 y1 y2
   unfold spec_HasPre.l0
   repeat' first
   | (with_reducible exact ih0 _ _ _)
   | (with_reducible exact LeO.refl _)
   | (with_reducible exact LeO.none _)
   | (with_reducible refine LeO.ite ?_ ?_)
   | (with_reducible refine LeO.bind ?_ (fun _ => ?_))
   | exact ih0 _ _ _
   | exact LeO.none _
   | refine LeO.ite ?_ ?_
   | refine LeO.bind ?_ (fun _ => ?_)
theorem spec_HasPre.mono : ∀ a0 k, LeO (spec_HasPre.f k a0) (spec_HasPre.f (k + 1) a0) := by
 intro a0 k
 have ih0 := spec_HasPre.mono_l k
 unfold spec_HasPre.f
 repeat' first
   | (with_reducible exact ih0 _ _ _)
   | (with_reducible exact LeO.refl _)
   | (with_reducible exact LeO.none _)
   | (with_reducible refine LeO.ite ?_ ?_)
   | (with_reducible refine LeO.bind ?_ (fun _ => ?_))
   | exact ih0 _ _ _
   | exact LeO.none _
   | refine LeO.ite ?_ ?_
   | refine LeO.bind ?_ (fun _ => ?_)
set_option maxHeartbeats 8000000 in
set_option maxRecDepth 100000 in
theorem spec_HasPre.calls (k : Nat) (A0 : Option Addr) (c0 : Nat) (l0 : List (S42)) (r : Bool) (w : World) (hr0 : Kd.C k42 w A0 l0.length l0) (hc0 : l0.length ≤ c0) (h : spec_HasPre.f k l0 = some r) :
  Calls Tryd.prog 158 #[.slice A0 l0.length c0] w fun e w' => e = .returned (.bool r) ∧ Below w.heap.size w w' := by
 have hu42 := Tryd.underlying42
 have HR0 := Aside0.mk hr0
 have HC0 := Aside0.mk hc0
 clear hr0 hc0
 have HB := Aside0.mk (Below.refl w.heap.size w)
 have H : (spec_HasPre.l0 k l0 (l0.length : Int) 0) = some r := h
 clear h
 have H' := Aside0.mk H
 clear H
 go_enter Tryd.func158, Tryd.ntmps158
 go_wp2
 go_loopg [7] k (fun kq v7 w' => ∃ (x7_1 : Int), v7 = .int .i64 x7_1 ∧ Aside0 (spec_HasPre.l0 kq l0 (l0.length : Int) x7_1 = some r) ∧ Aside0 (kq ≤ k) ∧ Aside0 (Below w.heap.size w w'))
 case atStart => exact ⟨(0), hrf, H', ⟨Nat.le_refl _⟩, ⟨hbl HB.out⟩⟩
 case round =>
  clear H'
  try clear c1
  obtain ⟨x7_1, rfl, HA, HK1, HB⟩ := hrel
  cases gk with
  | zero => exact absurd HA.out (by simp [spec_HasPre.l0])
  | succ k1 =>
   have H := HA.out
   clear HA
   simp only [spec_HasPre.l0] at H
   by_cases c2 : x7_1 < (l0.length : Int)
   ·
    rw [if_pos c2] at H
    have c2b0 : decide (x7_1 < (l0.length : Int)) = true := decide_eq_true c2
    clear c2
    by_cases c3 : 0 ≤ x7_1
    ·
     rw [if_pos c3] at H
     have c3b0 : decide (0 ≤ x7_1) = true := decide_eq_true c3
     clear c3
     by_cases c4 : x7_1 < (l0.length : Int)
     ·
      rw [if_pos c4] at H
      have c4b0 : decide (x7_1 < (l0.length : Int)) = true := decide_eq_true c4
      clear c4
      by_cases c5 : ((rd_T42 l0 x7_1).f5).toList = ([] : List UInt8)
      ·
       rw [if_pos c5] at H
       have c5b0 : (((rd_T42 l0 x7_1).f5).toList == ([] : List UInt8)) = true := beq_iff_eq.mpr c5
       have c5b1 : (((rd_T42 l0 x7_1).f5).toList != ([] : List UInt8)) = false := bne_eq_false_iff_eq.mpr c5
       clear c5
       have H' := Aside0.mk H
       clear H
       have p166 : 0 ≤ (x7_1 : Int) := of_decide_eq_true (by assumption)
       have q166 : x7_1 < (l0.length : Int) := of_decide_eq_true (by assumption)
       obtain ⟨ad166, e166, hx166_0, hx166_1, hx166_2, hx166_3, hx166_4, hx166_5⟩ := at_T42 HR0.out x7_1 p166 q166
       cases e166
       replace hx166_0 := (HB.out.cell (World.block_lt_of_cell? w _ hx166_0)).trans hx166_0
       replace hx166_1 := (HB.out.cell (World.block_lt_of_cell? w _ hx166_1)).trans hx166_1
       replace hx166_2 := (HB.out.cell (World.block_lt_of_cell? w _ hx166_2)).trans hx166_2
       replace hx166_3 := (HB.out.cell (World.block_lt_of_cell? w _ hx166_3)).trans hx166_3
       replace hx166_4 := (HB.out.cell (World.block_lt_of_cell? w _ hx166_4)).trans hx166_4
       replace hx166_5 := (HB.out.cell (World.block_lt_of_cell? w _ hx166_5)).trans hx166_5
       replace p166 := eq_true p166
       replace q166 := eq_true q166
       go_wp2_with (first | ((with_reducible refine gate_dst (N := 4) rfl ?_); refine box_event ?hg (N := 4) ?hd (cs := #[.int .i64 0, .int .i64 0, .int .u64 0, .int .u64 0, .int .u64 0, .string (⟨#[]⟩ : ByteArray)]) (t := 42) ?hr ?_; (case hd => rfl); (case hg => rfl); (case hr => first | (go_simp; done) | (go_simp; rfl)); intro gb167 hg w6 hbox hb; have n0_ := Aside0.mk (below_step (hbl HB.out) hb); have n1_ := Aside0.mk (hbox); have n2_ := Aside0.mk ((by rw [hg]; exact (below_size (hbl HB.out)) : w.heap.size ≤ gb167)); have n3_ := Aside0.mk ((by rw [hg]; exact (below_size (hbl HB.out)) : w.heap.size ≤ gb167)); clear HB; have HB := n0_; have BK167 := n1_; have GW167 := n2_; have GE167 := n3_; clear n0_ n1_ n2_ n3_; clear hb hbox hg; have hcz7_0 : w6.cell? ⟨gb167, 0, none⟩ = some (.int .i64 0) := (blk_cell BK167.out 0).trans rfl; have hcz7_1 : w6.cell? ⟨gb167, 1, none⟩ = some (.int .i64 0) := (blk_cell BK167.out 1).trans rfl; have hcz7_2 : w6.cell? ⟨gb167, 2, none⟩ = some (.int .u64 0) := (blk_cell BK167.out 2).trans rfl; have hcz7_3 : w6.cell? ⟨gb167, 3, none⟩ = some (.int .u64 0) := (blk_cell BK167.out 3).trans rfl; have hcz7_4 : w6.cell? ⟨gb167, 4, none⟩ = some (.int .u64 0) := (blk_cell BK167.out 4).trans rfl; have hcz7_5 : w6.cell? ⟨gb167, 5, none⟩ = some (.string (⟨#[]⟩ : ByteArray)) := (blk_cell BK167.out 5).trans rfl; have hfz7_0 := blk_frozen BK167.out 0; have hfz7_1 := blk_frozen BK167.out 1; have hfz7_2 := blk_frozen BK167.out 2; have hfz7_3 := blk_frozen BK167.out 3; have hfz7_4 := blk_frozen BK167.out 4; have hfz7_5 := blk_frozen BK167.out 5))
       go_roundg k1
       case measure => have := HK1.out; omega
       case rel => exact ⟨(wrap64 (x7_1 + 1)), hrf, H', ⟨by have := HK1.out; omega⟩, ⟨hbl HB.out⟩⟩
      ·
       rw [if_neg c5] at H
       have c5b0 : (((rd_T42 l0 x7_1).f5).toList == ([] : List UInt8)) = false := beq_eq_false_iff_ne.mpr c5
       have c5b1 : (((rd_T42 l0 x7_1).f5).toList != ([] : List UInt8)) = true := bne_iff_ne.mpr c5
       obtain rfl := Option.some.inj H
       have p166 : 0 ≤ (x7_1 : Int) := of_decide_eq_true (by assumption)
       have q166 : x7_1 < (l0.length : Int) := of_decide_eq_true (by assumption)
       obtain ⟨ad166, e166, hx166_0, hx166_1, hx166_2, hx166_3, hx166_4, hx166_5⟩ := at_T42 HR0.out x7_1 p166 q166
       cases e166
       replace hx166_0 := (HB.out.cell (World.block_lt_of_cell? w _ hx166_0)).trans hx166_0
       replace hx166_1 := (HB.out.cell (World.block_lt_of_cell? w _ hx166_1)).trans hx166_1
       replace hx166_2 := (HB.out.cell (World.block_lt_of_cell? w _ hx166_2)).trans hx166_2
       replace hx166_3 := (HB.out.cell (World.block_lt_of_cell? w _ hx166_3)).trans hx166_3
       replace hx166_4 := (HB.out.cell (World.block_lt_of_cell? w _ hx166_4)).trans hx166_4
       replace hx166_5 := (HB.out.cell (World.block_lt_of_cell? w _ hx166_5)).trans hx166_5
       replace p166 := eq_true p166
       replace q166 := eq_true q166
       go_wp2_with (first | ((with_reducible refine gate_dst (N := 4) rfl ?_); refine box_event ?hg (N := 4) ?hd (cs := #[.int .i64 0, .int .i64 0, .int .u64 0, .int .u64 0, .int .u64 0, .string (⟨#[]⟩ : ByteArray)]) (t := 42) ?hr ?_; (case hd => rfl); (case hg => rfl); (case hr => first | (go_simp; done) | (go_simp; rfl)); intro gb167 hg w8 hbox hb; have n0_ := Aside0.mk (below_step (hbl HB.out) hb); have n1_ := Aside0.mk (hbox); have n2_ := Aside0.mk ((by rw [hg]; exact (below_size (hbl HB.out)) : w.heap.size ≤ gb167)); have n3_ := Aside0.mk ((by rw [hg]; exact (below_size (hbl HB.out)) : w.heap.size ≤ gb167)); clear HB; have HB := n0_; have BK167 := n1_; have GW167 := n2_; have GE167 := n3_; clear n0_ n1_ n2_ n3_; clear hb hbox hg; have hcz9_0 : w8.cell? ⟨gb167, 0, none⟩ = some (.int .i64 0) := (blk_cell BK167.out 0).trans rfl; have hcz9_1 : w8.cell? ⟨gb167, 1, none⟩ = some (.int .i64 0) := (blk_cell BK167.out 1).trans rfl; have hcz9_2 : w8.cell? ⟨gb167, 2, none⟩ = some (.int .u64 0) := (blk_cell BK167.out 2).trans rfl; have hcz9_3 : w8.cell? ⟨gb167, 3, none⟩ = some (.int .u64 0) := (blk_cell BK167.out 3).trans rfl; have hcz9_4 : w8.cell? ⟨gb167, 4, none⟩ = some (.int .u64 0) := (blk_cell BK167.out 4).trans rfl; have hcz9_5 : w8.cell? ⟨gb167, 5, none⟩ = some (.string (⟨#[]⟩ : ByteArray)) := (blk_cell BK167.out 5).trans rfl; have hfz9_0 := blk_frozen BK167.out 0; have hfz9_1 := blk_frozen BK167.out 1; have hfz9_2 := blk_frozen BK167.out 2; have hfz9_3 := blk_frozen BK167.out 3; have hfz9_4 := blk_frozen BK167.out 4; have hfz9_5 := blk_frozen BK167.out 5))
       go_ret
       exact ⟨hrf, hbl HB.out⟩
     ·
      rw [if_neg c4] at H
      exact absurd H (by simp)
    ·
     rw [if_neg c3] at H
     exact absurd H (by simp)
   ·
    rw [if_neg c2] at H
    have c2b0 : decide (x7_1 < (l0.length : Int)) = false := decide_eq_false c2
    clear c2
    obtain rfl := Option.some.inj H
    go_wp2
    go_ret
    exact ⟨hrf, hbl HB.out⟩

/-! ### spec_LetsIn: function 123 -/
def spec_LetsIn.f (k : Nat) (l0 : List (S42)) (a1_0 : Int) (a1_1 : Int) (a1_2 : Int) (a1_3 : ByteArray) (a1_4 : ByteArray) (a2 : Bool) : Option (Bool) := if a1_3.toList = ([] : List UInt8) then (some true) else (if a2 = true then (some true) else ((spec_HasPre.f k l0).bind fun t169 => (some t169)))
theorem spec_LetsIn.mono : ∀ a0 a1 a2 a3 a4 a5 a6 k, LeO (spec_LetsIn.f k a0 a1 a2 a3 a4 a5 a6) (spec_LetsIn.f (k + 1) a0 a1 a2 a3 a4 a5 a6) := by
 intro a0 a1 a2 a3 a4 a5 a6 k
 unfold spec_LetsIn.f
 repeat' first
   | (with_reducible exact spec_HasPre.mono _ _)
   | (with_reducible exact LeO.refl _)
   | (with_reducible exact LeO.none _)
   | (with_reducible refine LeO.ite ?_ ?_)
   | (with_reducible refine LeO.bind ?_ (fun _ => ?_))
   | exact spec_HasPre.mono _ _
   | exact LeO.none _
   | refine LeO.ite ?_ ?_
   | refine LeO.bind ?_ (fun _ => ?_)
set_option maxHeartbeats 8000000 in
set_option maxRecDepth 100000 in
theorem spec_LetsIn.calls (k : Nat) (A0 : Option Addr) (c0 : Nat) (l0 : List (S42)) (a1_0 : Int) (a1_1 : Int) (a1_2 : Int) (a1_3 : ByteArray) (a1_4 : ByteArray) (a2 : Bool) (r : Bool) (w : World) (hr0 : Kd.C k42 w A0 l0.length l0) (hc0 : l0.length ≤ c0) (h : spec_LetsIn.f k l0 a1_0 a1_1 a1_2 a1_3 a1_4 a2 = some r) :
  Calls Tryd.prog 123 #[.slice A0 l0.length c0, .agg #[.int .u64 a1_0, .int .u64 a1_1, .int .u64 a1_2, .string a1_3, .string a1_4], .bool a2] w fun e w' => e = .returned (.bool r) ∧ Below w.heap.size w w' := by
 have hu29 := Tryd.underlying29
 have HR0 := Aside0.mk hr0
 have HC0 := Aside0.mk hc0
 clear hr0 hc0
 have HB := Aside0.mk (Below.refl w.heap.size w)
 have H : (if a1_3.toList = ([] : List UInt8) then (some true) else (if a2 = true then (some true) else ((spec_HasPre.f k l0).bind fun t169 => (some t169)))) = some r := h
 clear h
 by_cases c4 : a1_3.toList = ([] : List UInt8)
 ·
  rw [if_pos c4] at H
  have c4b0 : (a1_3.toList == ([] : List UInt8)) = true := beq_iff_eq.mpr c4
  have c4b1 : (a1_3.toList != ([] : List UInt8)) = false := bne_eq_false_iff_eq.mpr c4
  clear c4
  obtain rfl := Option.some.inj H
  go_enter Tryd.func123, Tryd.ntmps123
  go_wp2_with (first | ((with_reducible refine gate_dst (N := 4) rfl ?_); refine box_event ?hg (N := 4) ?hd (cs := #[.int .u64 a1_0, .int .u64 a1_1, .int .u64 a1_2, .string a1_3, .string a1_4]) (t := 29) ?hr ?_; (case hd => rfl); (case hg => rfl); (case hr => first | (go_simp; done) | (go_simp; rfl)); intro gb168 hg w5 hbox hb; have n0_ := Aside0.mk (below_step (hbl HB.out) hb); have n1_ := Aside0.mk (hbox); have n2_ := Aside0.mk ((by rw [hg]; exact (below_size (hbl HB.out)) : w.heap.size ≤ gb168)); have n3_ := Aside0.mk ((by rw [hg]; exact (below_size (hbl HB.out)) : w.heap.size ≤ gb168)); clear HB; have HB := n0_; have BK168 := n1_; have GW168 := n2_; have GE168 := n3_; clear n0_ n1_ n2_ n3_; clear hb hbox hg; have hcz6_0 : w5.cell? ⟨gb168, 0, none⟩ = some (.int .u64 a1_0) := (blk_cell BK168.out 0).trans rfl; have hcz6_1 : w5.cell? ⟨gb168, 1, none⟩ = some (.int .u64 a1_1) := (blk_cell BK168.out 1).trans rfl; have hcz6_2 : w5.cell? ⟨gb168, 2, none⟩ = some (.int .u64 a1_2) := (blk_cell BK168.out 2).trans rfl; have hcz6_3 : w5.cell? ⟨gb168, 3, none⟩ = some (.string a1_3) := (blk_cell BK168.out 3).trans rfl; have hcz6_4 : w5.cell? ⟨gb168, 4, none⟩ = some (.string a1_4) := (blk_cell BK168.out 4).trans rfl; have hfz6_0 := blk_frozen BK168.out 0; have hfz6_1 := blk_frozen BK168.out 1; have hfz6_2 := blk_frozen BK168.out 2; have hfz6_3 := blk_frozen BK168.out 3; have hfz6_4 := blk_frozen BK168.out 4))
  go_ret
  exact ⟨hrf, hbl HB.out⟩
 ·
  rw [if_neg c4] at H
  have c4b0 : (a1_3.toList == ([] : List UInt8)) = false := beq_eq_false_iff_ne.mpr c4
  have c4b1 : (a1_3.toList != ([] : List UInt8)) = true := bne_iff_ne.mpr c4
  by_cases c7 : a2 = true
  ·
   subst c7
   have H1 : (some true) = some r := by rw [if_pos rfl] at H; exact H
   clear H
   have H := H1
   clear H1
   obtain rfl := Option.some.inj H
   go_enter Tryd.func123, Tryd.ntmps123
   go_wp2_with (first | ((with_reducible refine gate_dst (N := 4) rfl ?_); refine box_event ?hg (N := 4) ?hd (cs := #[.int .u64 a1_0, .int .u64 a1_1, .int .u64 a1_2, .string a1_3, .string a1_4]) (t := 29) ?hr ?_; (case hd => rfl); (case hg => rfl); (case hr => first | (go_simp; done) | (go_simp; rfl)); intro gb168 hg w8 hbox hb; have n0_ := Aside0.mk (below_step (hbl HB.out) hb); have n1_ := Aside0.mk (hbox); have n2_ := Aside0.mk ((by rw [hg]; exact (below_size (hbl HB.out)) : w.heap.size ≤ gb168)); have n3_ := Aside0.mk ((by rw [hg]; exact (below_size (hbl HB.out)) : w.heap.size ≤ gb168)); clear HB; have HB := n0_; have BK168 := n1_; have GW168 := n2_; have GE168 := n3_; clear n0_ n1_ n2_ n3_; clear hb hbox hg; have hcz9_0 : w8.cell? ⟨gb168, 0, none⟩ = some (.int .u64 a1_0) := (blk_cell BK168.out 0).trans rfl; have hcz9_1 : w8.cell? ⟨gb168, 1, none⟩ = some (.int .u64 a1_1) := (blk_cell BK168.out 1).trans rfl; have hcz9_2 : w8.cell? ⟨gb168, 2, none⟩ = some (.int .u64 a1_2) := (blk_cell BK168.out 2).trans rfl; have hcz9_3 : w8.cell? ⟨gb168, 3, none⟩ = some (.string a1_3) := (blk_cell BK168.out 3).trans rfl; have hcz9_4 : w8.cell? ⟨gb168, 4, none⟩ = some (.string a1_4) := (blk_cell BK168.out 4).trans rfl; have hfz9_0 := blk_frozen BK168.out 0; have hfz9_1 := blk_frozen BK168.out 1; have hfz9_2 := blk_frozen BK168.out 2; have hfz9_3 := blk_frozen BK168.out 3; have hfz9_4 := blk_frozen BK168.out 4))
   go_ret
   exact ⟨hrf, hbl HB.out⟩
  ·
   replace c7 := Bool.eq_false_iff.mpr c7
   subst c7
   have H1 : ((spec_HasPre.f k l0).bind fun t169 => (some t169)) = some r := by rw [if_neg (show ¬ (false = true) by decide)] at H; exact H
   clear H
   have H := H1
   clear H1
   replace H := Option.bind_eq_some_iff.mp H
   obtain ⟨t169, A100, H⟩ := H
   replace H : (some t169) = some r := H
   have A10 := Aside0.mk A100
   clear A100
   obtain rfl := Option.some.inj H
   go_enter Tryd.func123, Tryd.ntmps123
   go_wp2_with (first | ((with_reducible refine gate_dst (N := 4) rfl ?_); refine box_event ?hg (N := 4) ?hd (cs := #[.int .u64 a1_0, .int .u64 a1_1, .int .u64 a1_2, .string a1_3, .string a1_4]) (t := 29) ?hr ?_; (case hd => rfl); (case hg => rfl); (case hr => first | (go_simp; done) | (go_simp; rfl)); intro gb168 hg w11 hbox hb; have n0_ := Aside0.mk (below_step (hbl HB.out) hb); have n1_ := Aside0.mk (hbox); have n2_ := Aside0.mk ((by rw [hg]; exact (below_size (hbl HB.out)) : w.heap.size ≤ gb168)); have n3_ := Aside0.mk ((by rw [hg]; exact (below_size (hbl HB.out)) : w.heap.size ≤ gb168)); clear HB; have HB := n0_; have BK168 := n1_; have GW168 := n2_; have GE168 := n3_; clear n0_ n1_ n2_ n3_; clear hb hbox hg; have hcz12_0 : w11.cell? ⟨gb168, 0, none⟩ = some (.int .u64 a1_0) := (blk_cell BK168.out 0).trans rfl; have hcz12_1 : w11.cell? ⟨gb168, 1, none⟩ = some (.int .u64 a1_1) := (blk_cell BK168.out 1).trans rfl; have hcz12_2 : w11.cell? ⟨gb168, 2, none⟩ = some (.int .u64 a1_2) := (blk_cell BK168.out 2).trans rfl; have hcz12_3 : w11.cell? ⟨gb168, 3, none⟩ = some (.string a1_3) := (blk_cell BK168.out 3).trans rfl; have hcz12_4 : w11.cell? ⟨gb168, 4, none⟩ = some (.string a1_4) := (blk_cell BK168.out 4).trans rfl; have hfz12_0 := blk_frozen BK168.out 0; have hfz12_1 := blk_frozen BK168.out 1; have hfz12_2 := blk_frozen BK168.out 2; have hfz12_3 := blk_frozen BK168.out 3; have hfz12_4 := blk_frozen BK168.out 4) | (go_at_call 158; (with_reducible refine (spec_HasPre.calls k _ _ l0 t169 _ ?side1 ?side2 A10.out).mono ?_); (case side1 => repeat (first | exact (Kd.C_below HR0.out HB.out) | (with_reducible refine Kd.C_alloc ?_ _) | (with_reducible refine Kd.C_drewN ?_ _) | (with_reducible refine Kd.C_drew ?_))); (case side2 => exact HC0.out); rintro e w13 ⟨rfl, hb⟩; have n0_ := Aside0.mk (blk_below (hbk BK168.out) hb); have n1_ := Aside0.mk (below_step (hbl HB.out) hb); clear BK168; clear HB; have BK168 := n0_; have HB := n1_; clear n0_ n1_; (try clear hb); (try clear hb2); (try clear hk); (try clear hi)))
   go_ret
   exact ⟨hrf, hbl HB.out⟩

/-! ### spec_order: function 154 -/
def spec_order.f (a0 : Int) (a1 : Int) : Option (Int) := if a0 < a1 then (some (-1)) else (if a0 > a1 then (some 1) else (some 0))
set_option maxHeartbeats 8000000 in
set_option maxRecDepth 100000 in
theorem spec_order.calls (a0 : Int) (a1 : Int) (r : Int) (w : World) (h : spec_order.f a0 a1 = some r) :
  Calls Tryd.prog 154 #[.int .u64 a0, .int .u64 a1] w fun e w' => e = .returned (.int .i64 r) ∧ Drawn0 w w' := by
 have H : (if a0 < a1 then (some (-1)) else (if a0 > a1 then (some 1) else (some 0))) = some r := h
 clear h
 by_cases c3 : a0 < a1
 ·
  rw [if_pos c3] at H
  have c3b0 : decide (a0 < a1) = true := decide_eq_true c3
  clear c3
  obtain rfl := Option.some.inj H
  go_enter Tryd.func154, Tryd.ntmps154
  go_wp2
  go_ret
  exact ⟨hrfb, by repeat (first | exact Drawn0.refl _ | apply Drawn0.step)⟩
 ·
  rw [if_neg c3] at H
  have c3b0 : decide (a0 < a1) = false := decide_eq_false c3
  clear c3
  by_cases c4 : a0 > a1
  ·
   rw [if_pos c4] at H
   have c4b0 : decide (a1 < a0) = true := decide_eq_true c4
   clear c4
   obtain rfl := Option.some.inj H
   go_enter Tryd.func154, Tryd.ntmps154
   go_wp2
   go_ret
   exact ⟨hrfb, by repeat (first | exact Drawn0.refl _ | apply Drawn0.step)⟩
  ·
   rw [if_neg c4] at H
   have c4b0 : decide (a1 < a0) = false := decide_eq_false c4
   clear c4
   obtain rfl := Option.some.inj H
   go_enter Tryd.func154, Tryd.ntmps154
   go_wp2
   go_ret
   exact ⟨hrfb, by repeat (first | exact Drawn0.refl _ | apply Drawn0.step)⟩

/-! ### spec_ComparePart: function 155 -/
def spec_ComparePart.j0 : Nat → ByteArray → ByteArray → Bool → Option (Int)
 | 0, _, _, _ => none
 | k + 1, x0, x1, x9 => if x9 = true then ((spec_order.f (IntKind.u64.wrap ((x0.size : Int))) (IntKind.u64.wrap ((x1.size : Int)))).bind fun t172 => (some t172)) else ((spec_Digits.f k x0).bind fun t173 => ((spec_Digits.f k x1).bind fun t174 => (if (t173 != t174) = true then ((spec_Digits.f k x0).bind fun t175 => (if t175 = true then (some (-1)) else (some 1))) else (if (Op.bytesLess x0.toList x1.toList) = true then (some (-1)) else (some 1)))))
def spec_ComparePart.f (k : Nat) (a0 : ByteArray) (a1 : ByteArray) : Option (Int) := if a0.toList = a1.toList then (some 0) else ((spec_Digits.f k a0).bind fun t170 => (if t170 = true then ((spec_Digits.f k a1).bind fun t171 => (if t171 = true then (spec_ComparePart.j0 k a0 a1 ((a0.size : Int) != (a1.size : Int))) else (spec_ComparePart.j0 k a0 a1 false))) else (spec_ComparePart.j0 k a0 a1 false)))
theorem spec_ComparePart.mono_l : ∀ k, (∀ y0 y1 y2, LeO (spec_ComparePart.j0 k y0 y1 y2) (spec_ComparePart.j0 (k + 1) y0 y1 y2))
 | 0 => fun _ _ _ r h => by simp [spec_ComparePart.j0] at h
 | k + 1 => by
  have ih0 := spec_ComparePart.mono_l k
  ·
   intro y0 y1 y2
   unfold spec_ComparePart.j0
   repeat' first
   | (with_reducible exact ih0 _ _ _)
   | (with_reducible exact spec_Digits.mono _ _)
   | (with_reducible exact LeO.refl _)
   | (with_reducible exact LeO.none _)
   | (with_reducible refine LeO.ite ?_ ?_)
   | (with_reducible refine LeO.bind ?_ (fun _ => ?_))
   | exact ih0 _ _ _
   | exact spec_Digits.mono _ _
   | exact LeO.none _
   | refine LeO.ite ?_ ?_
   | refine LeO.bind ?_ (fun _ => ?_)
theorem spec_ComparePart.mono : ∀ a0 a1 k, LeO (spec_ComparePart.f k a0 a1) (spec_ComparePart.f (k + 1) a0 a1) := by
 intro a0 a1 k
 have ih0 := spec_ComparePart.mono_l k
 unfold spec_ComparePart.f
 repeat' first
   | (with_reducible exact ih0 _ _ _)
   | (with_reducible exact spec_Digits.mono _ _)
   | (with_reducible exact LeO.refl _)
   | (with_reducible exact LeO.none _)
   | (with_reducible refine LeO.ite ?_ ?_)
   | (with_reducible refine LeO.bind ?_ (fun _ => ?_))
   | exact ih0 _ _ _
   | exact spec_Digits.mono _ _
   | exact LeO.none _
   | refine LeO.ite ?_ ?_
   | refine LeO.bind ?_ (fun _ => ?_)
set_option maxHeartbeats 8000000 in
set_option maxRecDepth 100000 in
theorem spec_ComparePart.calls (k : Nat) (a0 : ByteArray) (a1 : ByteArray) (r : Int) (w : World) (h : spec_ComparePart.f k a0 a1 = some r) :
  Calls Tryd.prog 155 #[.string a0, .string a1] w fun e w' => e = .returned (.int .i64 r) ∧ Drawn0 w w' := by
 have H : (if a0.toList = a1.toList then (some 0) else ((spec_Digits.f k a0).bind fun t170 => (if t170 = true then ((spec_Digits.f k a1).bind fun t171 => (if t171 = true then (spec_ComparePart.j0 k a0 a1 ((a0.size : Int) != (a1.size : Int))) else (spec_ComparePart.j0 k a0 a1 false))) else (spec_ComparePart.j0 k a0 a1 false)))) = some r := h
 clear h
 by_cases c3 : a0.toList = a1.toList
 ·
  rw [if_pos c3] at H
  have c3b0 : (a0.toList == a1.toList) = true := beq_iff_eq.mpr c3
  have c3b1 : (a0.toList != a1.toList) = false := bne_eq_false_iff_eq.mpr c3
  clear c3
  obtain rfl := Option.some.inj H
  go_enter Tryd.func155, Tryd.ntmps155
  go_wp2
  go_ret
  exact ⟨hrfb, by repeat (first | exact Drawn0.refl _ | apply Drawn0.step)⟩
 ·
  rw [if_neg c3] at H
  have c3b0 : (a0.toList == a1.toList) = false := beq_eq_false_iff_ne.mpr c3
  have c3b1 : (a0.toList != a1.toList) = true := bne_iff_ne.mpr c3
  have HC4 := Aside0.mk H
  clear H
  go_enter Tryd.func155, Tryd.ntmps155
  go_upto_region 3 with (fail)
  go_cut [9] (fun v9 wc => ∃ (kq : Nat) (x9_3 : Bool), v9 = .bool x9_3 ∧ Aside0 (spec_ComparePart.j0 kq a0 a1 x9_3 = some r) ∧ Aside0 (kq ≤ k) ∧ Drawn0 w wc)
  case first =>
   have H := HC4.out
   clear HC4
   replace H := Option.bind_eq_some_iff.mp H
   obtain ⟨t170, A50, H⟩ := H
   replace H : (if t170 = true then ((spec_Digits.f k a1).bind fun t171 => (if t171 = true then (spec_ComparePart.j0 k a0 a1 ((a0.size : Int) != (a1.size : Int))) else (spec_ComparePart.j0 k a0 a1 false))) else (spec_ComparePart.j0 k a0 a1 false)) = some r := H
   have A5 := Aside0.mk A50
   clear A50
   by_cases c6 : t170 = true
   ·
    subst c6
    have H1 : ((spec_Digits.f k a1).bind fun t171 => (if t171 = true then (spec_ComparePart.j0 k a0 a1 ((a0.size : Int) != (a1.size : Int))) else (spec_ComparePart.j0 k a0 a1 false))) = some r := by rw [if_pos rfl] at H; exact H
    clear H
    have H := H1
    clear H1
    replace H := Option.bind_eq_some_iff.mp H
    obtain ⟨t171, A70, H⟩ := H
    replace H : (if t171 = true then (spec_ComparePart.j0 k a0 a1 ((a0.size : Int) != (a1.size : Int))) else (spec_ComparePart.j0 k a0 a1 false)) = some r := H
    have A7 := Aside0.mk A70
    clear A70
    by_cases c8 : t171 = true
    ·
     subst c8
     have H1 : (spec_ComparePart.j0 k a0 a1 ((a0.size : Int) != (a1.size : Int))) = some r := by rw [if_pos rfl] at H; exact H
     clear H
     have H := H1
     clear H1
     have H' := Aside0.mk H
     clear H
     go_wp2_with (first | ((with_reducible refine gate_callee (f := 100) rfl ?_); refine goesL_ (some 11) rfl rfl Tryd.func100 (by kernel_rfl) rfl #[.string a0] rfl (by (try simp only [List.map_toArray, List.map_cons, List.map_nil]); first | done | rfl | (simp only [List.length_drop, List.length_take]; rfl)) ?_; (with_reducible refine (spec_Digits.calls k a0 true _ A5.out).mono ?_); rintro e w' ⟨rfl, ⟨nd, rfl⟩⟩; refine ⟨_, rfl, ?_⟩) | (go_at_call 100; (with_reducible refine (spec_Digits.calls k a1 true _ A7.out).mono ?_); rintro e w' ⟨rfl, ⟨nd, rfl⟩⟩))
     go_meet
     case rel => exact ⟨_, (((a0.size : Int) != (a1.size : Int))), hrf, H', ⟨by first | omega | exact Nat.le_refl _⟩, by repeat (first | exact Drawn0.refl _ | apply Drawn0.step)⟩
    ·
     replace c8 := Bool.eq_false_iff.mpr c8
     subst c8
     have H1 : (spec_ComparePart.j0 k a0 a1 false) = some r := by rw [if_neg (show ¬ (false = true) by decide)] at H; exact H
     clear H
     have H := H1
     clear H1
     have H' := Aside0.mk H
     clear H
     go_wp2_with (first | ((with_reducible refine gate_callee (f := 100) rfl ?_); refine goesL_ (some 11) rfl rfl Tryd.func100 (by kernel_rfl) rfl #[.string a0] rfl (by (try simp only [List.map_toArray, List.map_cons, List.map_nil]); first | done | rfl | (simp only [List.length_drop, List.length_take]; rfl)) ?_; (with_reducible refine (spec_Digits.calls k a0 true _ A5.out).mono ?_); rintro e w' ⟨rfl, ⟨nd, rfl⟩⟩; refine ⟨_, rfl, ?_⟩) | (go_at_call 100; (with_reducible refine (spec_Digits.calls k a1 false _ A7.out).mono ?_); rintro e w' ⟨rfl, ⟨nd, rfl⟩⟩))
     go_meet
     case rel => exact ⟨_, (false), hrf, H', ⟨by first | omega | exact Nat.le_refl _⟩, by repeat (first | exact Drawn0.refl _ | apply Drawn0.step)⟩
   ·
    replace c6 := Bool.eq_false_iff.mpr c6
    subst c6
    have H1 : (spec_ComparePart.j0 k a0 a1 false) = some r := by rw [if_neg (show ¬ (false = true) by decide)] at H; exact H
    clear H
    have H := H1
    clear H1
    have H' := Aside0.mk H
    clear H
    go_wp2_with (first | ((with_reducible refine gate_callee (f := 100) rfl ?_); refine goesL_ (some 11) rfl rfl Tryd.func100 (by kernel_rfl) rfl #[.string a0] rfl (by (try simp only [List.map_toArray, List.map_cons, List.map_nil]); first | done | rfl | (simp only [List.length_drop, List.length_take]; rfl)) ?_; (with_reducible refine (spec_Digits.calls k a0 false _ A5.out).mono ?_); rintro e w' ⟨rfl, ⟨nd, rfl⟩⟩; refine ⟨_, rfl, ?_⟩))
    go_meet
    case rel => exact ⟨_, (false), hrf, H', ⟨by first | omega | exact Nat.le_refl _⟩, by repeat (first | exact Drawn0.refl _ | apply Drawn0.step)⟩
  case rest =>
   clear HC4
   try clear c1
   try clear p2
   try clear c3
   try clear c3b0
   try clear c3b1
   try clear c6
   try clear c8
   obtain ⟨kq, x9_3, rfl, HA, HJ3, ⟨mc3, rfl⟩⟩ := hcut
   cases kq with
   | zero => exact absurd HA.out (by simp [spec_ComparePart.j0])
   | succ kj3 =>
    have H := HA.out
    clear HA
    simp only [spec_ComparePart.j0] at H
    by_cases c9 : x9_3 = true
    ·
     subst c9
     have H1 : ((spec_order.f (IntKind.u64.wrap ((a0.size : Int))) (IntKind.u64.wrap ((a1.size : Int)))).bind fun t172 => (some t172)) = some r := by rw [if_pos rfl] at H; exact H
     clear H
     have H := H1
     clear H1
     replace H := Option.bind_eq_some_iff.mp H
     obtain ⟨t172, A100, H⟩ := H
     replace H : (some t172) = some r := H
     have A10 := Aside0.mk A100
     clear A100
     obtain rfl := Option.some.inj H
     go_wp2_with (first | ((with_reducible refine gate_callee (f := 154) rfl ?_); refine goesL_ (some 29) rfl rfl Tryd.func154 (by kernel_rfl) rfl #[.int .u64 (IntKind.u64.wrap ((a0.size : Int))), .int .u64 (IntKind.u64.wrap ((a1.size : Int)))] rfl (by (try simp only [List.map_toArray, List.map_cons, List.map_nil]); first | done | rfl | (simp only [List.length_drop, List.length_take]; rfl)) ?_; (with_reducible refine (spec_order.calls (IntKind.u64.wrap ((a0.size : Int))) (IntKind.u64.wrap ((a1.size : Int))) t172 _ A10.out).mono ?_); rintro e w' ⟨rfl, ⟨nd, rfl⟩⟩; refine ⟨_, rfl, ?_⟩))
     go_ret
     exact ⟨hrfb, by repeat (first | exact Drawn0.refl _ | apply Drawn0.step)⟩
    ·
     replace c9 := Bool.eq_false_iff.mpr c9
     subst c9
     have H1 : ((spec_Digits.f kj3 a0).bind fun t173 => ((spec_Digits.f kj3 a1).bind fun t174 => (if (t173 != t174) = true then ((spec_Digits.f kj3 a0).bind fun t175 => (if t175 = true then (some (-1)) else (some 1))) else (if (Op.bytesLess a0.toList a1.toList) = true then (some (-1)) else (some 1))))) = some r := by rw [if_neg (show ¬ (false = true) by decide)] at H; exact H
     clear H
     have H := H1
     clear H1
     replace H := Option.bind_eq_some_iff.mp H
     obtain ⟨t173, A110, H⟩ := H
     replace H : ((spec_Digits.f kj3 a1).bind fun t174 => (if (t173 != t174) = true then ((spec_Digits.f kj3 a0).bind fun t175 => (if t175 = true then (some (-1)) else (some 1))) else (if (Op.bytesLess a0.toList a1.toList) = true then (some (-1)) else (some 1)))) = some r := H
     have A11 := Aside0.mk A110
     clear A110
     replace H := Option.bind_eq_some_iff.mp H
     obtain ⟨t174, A120, H⟩ := H
     replace H : (if (t173 != t174) = true then ((spec_Digits.f kj3 a0).bind fun t175 => (if t175 = true then (some (-1)) else (some 1))) else (if (Op.bytesLess a0.toList a1.toList) = true then (some (-1)) else (some 1))) = some r := H
     have A12 := Aside0.mk A120
     clear A120
     by_cases c13 : (t173 != t174) = true
     ·
      rw [if_pos c13] at H
      have c13b0 : (t173 != t174) = true := c13
      (try (have c13b1 : decide (t173 = t174) = false := by simpa using c13))
      (try (have c13b2 : (t173 == t174) = false := by simpa using c13))
      (try (have c13b3 : ¬ (t173 = t174) := by simpa using c13))
      clear c13
      replace H := Option.bind_eq_some_iff.mp H
      obtain ⟨t175, A140, H⟩ := H
      replace H : (if t175 = true then (some (-1)) else (some 1)) = some r := H
      have A14 := Aside0.mk A140
      clear A140
      by_cases c15 : t175 = true
      ·
       subst c15
       have H1 : (some (-1)) = some r := by rw [if_pos rfl] at H; exact H
       clear H
       have H := H1
       clear H1
       obtain rfl := Option.some.inj H
       go_wp2_with (first | ((with_reducible refine gate_callee (f := 100) rfl ?_); refine goesL_ (some 32) rfl rfl Tryd.func100 (by kernel_rfl) rfl #[.string a0] rfl (by (try simp only [List.map_toArray, List.map_cons, List.map_nil]); first | done | rfl | (simp only [List.length_drop, List.length_take]; rfl)) ?_; (with_reducible refine (spec_Digits.calls kj3 a0 t173 _ A11.out).mono ?_); rintro e w' ⟨rfl, ⟨nd, rfl⟩⟩; refine ⟨_, rfl, ?_⟩) | ((with_reducible refine gate_callee (f := 100) rfl ?_); refine goesL_ (some 34) rfl rfl Tryd.func100 (by kernel_rfl) rfl #[.string a1] rfl (by (try simp only [List.map_toArray, List.map_cons, List.map_nil]); first | done | rfl | (simp only [List.length_drop, List.length_take]; rfl)) ?_; (with_reducible refine (spec_Digits.calls kj3 a1 t174 _ A12.out).mono ?_); rintro e w' ⟨rfl, ⟨nd, rfl⟩⟩; refine ⟨_, rfl, ?_⟩) | ((with_reducible refine gate_callee (f := 100) rfl ?_); refine goesL_ (some 37) rfl rfl Tryd.func100 (by kernel_rfl) rfl #[.string a0] rfl (by (try simp only [List.map_toArray, List.map_cons, List.map_nil]); first | done | rfl | (simp only [List.length_drop, List.length_take]; rfl)) ?_; (with_reducible refine (spec_Digits.calls kj3 a0 true _ A14.out).mono ?_); rintro e w' ⟨rfl, ⟨nd, rfl⟩⟩; refine ⟨_, rfl, ?_⟩))
       go_ret
       exact ⟨hrfb, by repeat (first | exact Drawn0.refl _ | apply Drawn0.step)⟩
      ·
       replace c15 := Bool.eq_false_iff.mpr c15
       subst c15
       have H1 : (some 1) = some r := by rw [if_neg (show ¬ (false = true) by decide)] at H; exact H
       clear H
       have H := H1
       clear H1
       obtain rfl := Option.some.inj H
       go_wp2_with (first | ((with_reducible refine gate_callee (f := 100) rfl ?_); refine goesL_ (some 32) rfl rfl Tryd.func100 (by kernel_rfl) rfl #[.string a0] rfl (by (try simp only [List.map_toArray, List.map_cons, List.map_nil]); first | done | rfl | (simp only [List.length_drop, List.length_take]; rfl)) ?_; (with_reducible refine (spec_Digits.calls kj3 a0 t173 _ A11.out).mono ?_); rintro e w' ⟨rfl, ⟨nd, rfl⟩⟩; refine ⟨_, rfl, ?_⟩) | ((with_reducible refine gate_callee (f := 100) rfl ?_); refine goesL_ (some 34) rfl rfl Tryd.func100 (by kernel_rfl) rfl #[.string a1] rfl (by (try simp only [List.map_toArray, List.map_cons, List.map_nil]); first | done | rfl | (simp only [List.length_drop, List.length_take]; rfl)) ?_; (with_reducible refine (spec_Digits.calls kj3 a1 t174 _ A12.out).mono ?_); rintro e w' ⟨rfl, ⟨nd, rfl⟩⟩; refine ⟨_, rfl, ?_⟩) | ((with_reducible refine gate_callee (f := 100) rfl ?_); refine goesL_ (some 37) rfl rfl Tryd.func100 (by kernel_rfl) rfl #[.string a0] rfl (by (try simp only [List.map_toArray, List.map_cons, List.map_nil]); first | done | rfl | (simp only [List.length_drop, List.length_take]; rfl)) ?_; (with_reducible refine (spec_Digits.calls kj3 a0 false _ A14.out).mono ?_); rintro e w' ⟨rfl, ⟨nd, rfl⟩⟩; refine ⟨_, rfl, ?_⟩))
       go_ret
       exact ⟨hrfb, by repeat (first | exact Drawn0.refl _ | apply Drawn0.step)⟩
     ·
      rw [if_neg c13] at H
      have c13b0 : (t173 != t174) = false := by simpa using c13
      (try (have c13b1 : decide (t173 = t174) = true := by simpa using c13))
      (try (have c13b2 : (t173 == t174) = true := by simpa using c13))
      clear c13
      by_cases c16 : (Op.bytesLess a0.toList a1.toList) = true
      ·
       rw [if_pos c16] at H
       have c16b0 : (Op.bytesLess a0.toList a1.toList) = true := c16
       clear c16
       obtain rfl := Option.some.inj H
       go_wp2_with (first | ((with_reducible refine gate_callee (f := 100) rfl ?_); refine goesL_ (some 32) rfl rfl Tryd.func100 (by kernel_rfl) rfl #[.string a0] rfl (by (try simp only [List.map_toArray, List.map_cons, List.map_nil]); first | done | rfl | (simp only [List.length_drop, List.length_take]; rfl)) ?_; (with_reducible refine (spec_Digits.calls kj3 a0 t173 _ A11.out).mono ?_); rintro e w' ⟨rfl, ⟨nd, rfl⟩⟩; refine ⟨_, rfl, ?_⟩) | ((with_reducible refine gate_callee (f := 100) rfl ?_); refine goesL_ (some 34) rfl rfl Tryd.func100 (by kernel_rfl) rfl #[.string a1] rfl (by (try simp only [List.map_toArray, List.map_cons, List.map_nil]); first | done | rfl | (simp only [List.length_drop, List.length_take]; rfl)) ?_; (with_reducible refine (spec_Digits.calls kj3 a1 t174 _ A12.out).mono ?_); rintro e w' ⟨rfl, ⟨nd, rfl⟩⟩; refine ⟨_, rfl, ?_⟩))
       go_ret
       exact ⟨hrfb, by repeat (first | exact Drawn0.refl _ | apply Drawn0.step)⟩
      ·
       rw [if_neg c16] at H
       have c16b0 : (Op.bytesLess a0.toList a1.toList) = false := by simpa using c16
       clear c16
       obtain rfl := Option.some.inj H
       go_wp2_with (first | ((with_reducible refine gate_callee (f := 100) rfl ?_); refine goesL_ (some 32) rfl rfl Tryd.func100 (by kernel_rfl) rfl #[.string a0] rfl (by (try simp only [List.map_toArray, List.map_cons, List.map_nil]); first | done | rfl | (simp only [List.length_drop, List.length_take]; rfl)) ?_; (with_reducible refine (spec_Digits.calls kj3 a0 t173 _ A11.out).mono ?_); rintro e w' ⟨rfl, ⟨nd, rfl⟩⟩; refine ⟨_, rfl, ?_⟩) | ((with_reducible refine gate_callee (f := 100) rfl ?_); refine goesL_ (some 34) rfl rfl Tryd.func100 (by kernel_rfl) rfl #[.string a1] rfl (by (try simp only [List.map_toArray, List.map_cons, List.map_nil]); first | done | rfl | (simp only [List.length_drop, List.length_take]; rfl)) ?_; (with_reducible refine (spec_Digits.calls kj3 a1 t174 _ A12.out).mono ?_); rintro e w' ⟨rfl, ⟨nd, rfl⟩⟩; refine ⟨_, rfl, ?_⟩))
       go_ret
       exact ⟨hrfb, by repeat (first | exact Drawn0.refl _ | apply Drawn0.step)⟩

end Go.Proofs.YtalpehfjjidfhaaDoor.MP
