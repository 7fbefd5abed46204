-- Written by a program of this session (wip/tools/myprint.py over the kit's print).
import Derived.Test.YtalpehfjjidfhaaDoorMPx0
import Derived.Test.YtalpehfjjidfhaaDoorMPx4
namespace Go.Proofs.YtalpehfjjidfhaaDoor.MP
open Go.RowKit Go.Proofs.YtalpehfjjidfhaaDoorW.PrintWords Go.Proofs.YtalpehfjjidfhaaDoorW.PrintLast Go.Proofs.YtalpehfjjidfhaaDoorW.PrintMore Go.Proofs.YtalpehfjjidfhaaDoor
attribute [local go_sem] max2_int min2_int max_two min_two max_three min_three max_four min_four   -- for this text's walks alone
set_option linter.unusedVariables false
set_option linter.unusedSimpArgs false

/-! ### spec_GoodTerms: function 115 -/
mutual
def spec_GoodTerms.l0 : Nat → Int → Int → List (List (S42)) → Int → Int → Option (Bool)
 | 0, _, _, _, _, _ => none
 | k + 1, x1, x5, x10, x11, x12 => if x12 < x11 then (if 0 ≤ x12 then (if x12 < (x10.length : Int) then (spec_GoodTerms.l1 k x1 x5 (rd_L5 x10 x12) x10 x11 x12 (rd_L5 x10 x12) ((rd_L5 x10 x12).length : Int) 0) else (none)) else (none)) else (some (decide (x5 > 0)))
def spec_GoodTerms.l1 : Nat → Int → Int → List (S42) → List (List (S42)) → Int → Int → List (S42) → Int → Int → Option (Bool)
 | 0, _, _, _, _, _, _, _, _, _ => none
 | k + 1, x1, x5, x7, x10, x11, x12, x16, x17, x18 => if x18 < x17 then (if 0 ≤ x18 then (if x18 < (x16.length : Int) then ((spec_GoodTerm.f k ((rd_T42 x16 x18).f0) ((rd_T42 x16 x18).f1) ((rd_T42 x16 x18).f2) ((rd_T42 x16 x18).f3) ((rd_T42 x16 x18).f4) ((rd_T42 x16 x18).f5)).bind fun t152 => (if t152 = true then (spec_GoodTerms.l1 k x1 x5 x7 x10 x11 x12 x16 x17 (wrap64 (x18 + 1))) else (some false))) else (none)) else (none)) else (if (x7.length : Int) = 0 then (some false) else (if (wrap64 (x5 + (x7.length : Int))) > x1 then (some false) else (spec_GoodTerms.l0 k x1 (wrap64 (x5 + (x7.length : Int))) x10 x11 (wrap64 (x12 + 1)))))
end
def spec_GoodTerms.f (k : Nat) (l0 : List (List (S42))) (a1 : Int) : Option (Bool) := spec_GoodTerms.l0 k a1 0 l0 (l0.length : Int) 0
theorem spec_GoodTerms.mono_l : ∀ k, (∀ y0 y1 y2 y3 y4, LeO (spec_GoodTerms.l0 k y0 y1 y2 y3 y4) (spec_GoodTerms.l0 (k + 1) y0 y1 y2 y3 y4)) ∧ (∀ y0 y1 y2 y3 y4 y5 y6 y7 y8, LeO (spec_GoodTerms.l1 k y0 y1 y2 y3 y4 y5 y6 y7 y8) (spec_GoodTerms.l1 (k + 1) y0 y1 y2 y3 y4 y5 y6 y7 y8))
 | 0 => ⟨fun _ _ _ _ _ r h => by simp [spec_GoodTerms.l0] at h, fun _ _ _ _ _ _ _ _ _ r h => by simp [spec_GoodTerms.l1] at h⟩
 | k + 1 => by
  obtain ⟨ih0, ih1⟩ := spec_GoodTerms.mono_l k
  refine ⟨?_, ?_⟩
  ·
   intro y0 y1 y2 y3 y4
   unfold spec_GoodTerms.l0
   repeat' first
   | (with_reducible exact ih0 _ _ _ _ _)
   | (with_reducible exact ih1 _ _ _ _ _ _ _ _ _)
   | (with_reducible exact spec_GoodTerm.mono _ _ _ _ _ _ _)
   | (with_reducible exact LeO.refl _)
   | (with_reducible exact LeO.none _)
   | (with_reducible refine LeO.ite ?_ ?_)
   | (with_reducible refine LeO.bind ?_ (fun _ => ?_))
   | exact ih0 _ _ _ _ _
   | exact ih1 _ _ _ _ _ _ _ _ _
   | exact spec_GoodTerm.mono _ _ _ _ _ _ _
   | exact LeO.none _
   | refine LeO.ite ?_ ?_
   | refine LeO.bind ?_ (fun _ => ?_)
  ·
   intro y0 y1 y2 y3 y4 y5 y6 y7 y8
   unfold spec_GoodTerms.l1
   repeat' first
   | (with_reducible exact ih0 _ _ _ _ _)
   | (with_reducible exact ih1 _ _ _ _ _ _ _ _ _)
   | (with_reducible exact spec_GoodTerm.mono _ _ _ _ _ _ _)
   | (with_reducible exact LeO.refl _)
   | (with_reducible exact LeO.none _)
   | (with_reducible refine LeO.ite ?_ ?_)
   | (with_reducible refine LeO.bind ?_ (fun _ => ?_))
   | exact ih0 _ _ _ _ _
   | exact ih1 _ _ _ _ _ _ _ _ _
   | exact spec_GoodTerm.mono _ _ _ _ _ _ _
   | exact LeO.none _
   | refine LeO.ite ?_ ?_
   | refine LeO.bind ?_ (fun _ => ?_)
theorem spec_GoodTerms.mono : ∀ a0 a1 k, LeO (spec_GoodTerms.f k a0 a1) (spec_GoodTerms.f (k + 1) a0 a1) := by
 intro a0 a1 k
 obtain ⟨ih0, ih1⟩ := spec_GoodTerms.mono_l k
 unfold spec_GoodTerms.f
 repeat' first
   | (with_reducible exact ih0 _ _ _ _ _)
   | (with_reducible exact ih1 _ _ _ _ _ _ _ _ _)
   | (with_reducible exact spec_GoodTerm.mono _ _ _ _ _ _ _)
   | (with_reducible exact LeO.refl _)
   | (with_reducible exact LeO.none _)
   | (with_reducible refine LeO.ite ?_ ?_)
   | (with_reducible refine LeO.bind ?_ (fun _ => ?_))
   | exact ih0 _ _ _ _ _
   | exact ih1 _ _ _ _ _ _ _ _ _
   | exact spec_GoodTerm.mono _ _ _ _ _ _ _
   | exact LeO.none _
   | refine LeO.ite ?_ ?_
   | refine LeO.bind ?_ (fun _ => ?_)
set_option maxHeartbeats 8000000 in
set_option maxRecDepth 100000 in
theorem spec_GoodTerms.calls (k : Nat) (A0 : Option Addr) (c0 : Nat) (l0 : List (List (S42))) (a1 : Int) (r : Bool) (w : World) (hr0 : Kd.C (Kd.slice 42 k42) w A0 l0.length l0) (hc0 : l0.length ≤ c0) (h : spec_GoodTerms.f k l0 a1 = some r) :
  Calls Tryd.prog 115 #[.slice A0 l0.length c0, .int .i64 a1] w fun e w' => e = .returned (.bool r) ∧ Below w.heap.size w w' := by
 have hu42 := Tryd.underlying42
 have HR0 := Aside0.mk hr0
 have HC0 := Aside0.mk hc0
 clear hr0 hc0
 have HB := Aside0.mk (Below.refl w.heap.size w)
 have H : (spec_GoodTerms.l0 k a1 0 l0 (l0.length : Int) 0) = some r := h
 clear h
 have H' := Aside0.mk H
 clear H
 go_enter Tryd.func115, Tryd.ntmps115
 go_wp2
 go_loopg [5, 12] k (fun kq v5 v12 w' => ∃ (x5_1 : Int) (x12_1 : Int), v5 = .int .i64 x5_1 ∧ v12 = .int .i64 x12_1 ∧ Aside0 (spec_GoodTerms.l0 kq a1 x5_1 l0 (l0.length : Int) x12_1 = some r) ∧ Aside0 (kq ≤ k) ∧ Aside0 (Below w.heap.size w w'))
 case atStart => exact ⟨(0), (0), hrf, hrf, H', ⟨Nat.le_refl _⟩, ⟨hbl HB.out⟩⟩
 case round =>
  clear H'
  try clear c1
  try clear p2
  obtain ⟨x5_1, x12_1, rfl, rfl, HA, HK1, HB⟩ := hrel
  cases gk with
  | zero => exact absurd HA.out (by simp [spec_GoodTerms.l0])
  | succ k1 =>
   have H := HA.out
   clear HA
   simp only [spec_GoodTerms.l0] at H
   by_cases c3 : x12_1 < (l0.length : Int)
   ·
    rw [if_pos c3] at H
    have c3b0 : decide (x12_1 < (l0.length : Int)) = true := decide_eq_true c3
    clear c3
    by_cases c4 : 0 ≤ x12_1
    ·
     rw [if_pos c4] at H
     have c4b0 : decide (0 ≤ x12_1) = true := decide_eq_true c4
     clear c4
     by_cases c5 : x12_1 < (l0.length : Int)
     ·
      rw [if_pos c5] at H
      have c5b0 : decide (x12_1 < (l0.length : Int)) = true := decide_eq_true c5
      clear c5
      have H' := Aside0.mk H
      clear H
      have p149 : 0 ≤ (x12_1 : Int) := of_decide_eq_true (by assumption)
      have q149 : x12_1 < (l0.length : Int) := of_decide_eq_true (by assumption)
      obtain ⟨ad149, A149_0, c149_0, e149, hx149_0, hl149_0, hi149_0⟩ := at_L5 HR0.out x12_1 p149 q149
      cases e149
      replace hx149_0 := (HB.out.cell (World.block_lt_of_cell? w _ hx149_0)).trans hx149_0
      have HR149_0 := Aside0.mk hi149_0
      have HC149_0 := Aside0.mk hl149_0
      clear hi149_0 hl149_0
      replace p149 := eq_true p149
      replace q149 := eq_true q149
      go_wp2
      go_loopg [18] k1 (fun kq v18 w' => ∃ (x18_2 : Int), v18 = .int .i64 x18_2 ∧ Aside0 (spec_GoodTerms.l1 kq a1 x5_1 (rd_L5 l0 x12_1) l0 (l0.length : Int) x12_1 (rd_L5 l0 x12_1) ((rd_L5 l0 x12_1).length : Int) x18_2 = some r) ∧ Aside0 (kq ≤ k1) ∧ Aside0 (Below w.heap.size w w'))
      case atStart => exact ⟨(0), hrf, H', ⟨Nat.le_refl _⟩, ⟨hbl HB.out⟩⟩
      case round =>
       clear H'
       try clear c1
       try clear p1
       try clear q1
       try clear hx1
       try clear p2
       try clear c3
       try clear c3b0
       try clear c4
       try clear c4b0
       try clear c5
       try clear c5b0
       try clear hx149_0
       try clear p149
       try clear p2
       try clear q149
       obtain ⟨x18_2, rfl, HA, HK2, HB⟩ := hrel
       cases gk with
       | zero => exact absurd HA.out (by simp [spec_GoodTerms.l1])
       | succ k2 =>
        have H := HA.out
        clear HA
        simp only [spec_GoodTerms.l1] at H
        by_cases c6 : x18_2 < ((rd_L5 l0 x12_1).length : Int)
        ·
         rw [if_pos c6] at H
         have c6b0 : decide (x18_2 < ((rd_L5 l0 x12_1).length : Int)) = true := decide_eq_true c6
         clear c6
         by_cases c7 : 0 ≤ x18_2
         ·
          rw [if_pos c7] at H
          have c7b0 : decide (0 ≤ x18_2) = true := decide_eq_true c7
          clear c7
          by_cases c8 : x18_2 < ((rd_L5 l0 x12_1).length : Int)
          ·
           rw [if_pos c8] at H
           have c8b0 : decide (x18_2 < ((rd_L5 l0 x12_1).length : Int)) = true := decide_eq_true c8
           clear c8
           replace H := Option.bind_eq_some_iff.mp H
           obtain ⟨t152, A90, H⟩ := H
           replace H : (if t152 = true then (spec_GoodTerms.l1 k2 a1 x5_1 (rd_L5 l0 x12_1) l0 (l0.length : Int) x12_1 (rd_L5 l0 x12_1) ((rd_L5 l0 x12_1).length : Int) (wrap64 (x18_2 + 1))) else (some false)) = some r := H
           have A9 := Aside0.mk A90
           clear A90
           by_cases c10 : t152 = true
           ·
            subst c10
            have H1 : (spec_GoodTerms.l1 k2 a1 x5_1 (rd_L5 l0 x12_1) l0 (l0.length : Int) x12_1 (rd_L5 l0 x12_1) ((rd_L5 l0 x12_1).length : Int) (wrap64 (x18_2 + 1))) = some r := by rw [if_pos rfl] at H; exact H
            clear H
            have H := H1
            clear H1
            have H' := Aside0.mk H
            clear H
            have p150 : 0 ≤ (x18_2 : Int) := of_decide_eq_true (by assumption)
            have q150 : x18_2 < ((rd_L5 l0 x12_1).length : Int) := of_decide_eq_true (by assumption)
            obtain ⟨ad150, e150, hx150_0, hx150_1, hx150_2, hx150_3, hx150_4, hx150_5⟩ := at_T42 HR149_0.out x18_2 p150 q150
            cases e150
            replace hx150_0 := (HB.out.cell (World.block_lt_of_cell? w _ hx150_0)).trans hx150_0
            replace hx150_1 := (HB.out.cell (World.block_lt_of_cell? w _ hx150_1)).trans hx150_1
            replace hx150_2 := (HB.out.cell (World.block_lt_of_cell? w _ hx150_2)).trans hx150_2
            replace hx150_3 := (HB.out.cell (World.block_lt_of_cell? w _ hx150_3)).trans hx150_3
            replace hx150_4 := (HB.out.cell (World.block_lt_of_cell? w _ hx150_4)).trans hx150_4
            replace hx150_5 := (HB.out.cell (World.block_lt_of_cell? w _ hx150_5)).trans hx150_5
            replace p150 := eq_true p150
            replace q150 := eq_true q150
            go_wp2_with (first | ((with_reducible refine gate_dst (N := 9) rfl ?_); refine box_event ?hg (N := 9) ?hd (cs := #[.int .i64 0, .int .i64 0, .int .u64 0, .int .u64 0, .int .u64 0, .string (⟨#[]⟩ : ByteArray)]) (t := 42) ?hr ?_; (case hd => rfl); (case hg => rfl); (case hr => first | (go_simp; done) | (go_simp; rfl)); intro gb151 hg w11 hbox hb; have n0_ := Aside0.mk (below_step (hbl HB.out) hb); have n1_ := Aside0.mk (hbox); have n2_ := Aside0.mk ((by rw [hg]; exact (below_size (hbl HB.out)) : w.heap.size ≤ gb151)); have n3_ := Aside0.mk ((by rw [hg]; exact (below_size (hbl HB.out)) : w.heap.size ≤ gb151)); clear HB; have HB := n0_; have BK151 := n1_; have GW151 := n2_; have GE151 := n3_; clear n0_ n1_ n2_ n3_; clear hb hbox hg; have hcz12_0 : w11.cell? ⟨gb151, 0, none⟩ = some (.int .i64 0) := (blk_cell BK151.out 0).trans rfl; have hcz12_1 : w11.cell? ⟨gb151, 1, none⟩ = some (.int .i64 0) := (blk_cell BK151.out 1).trans rfl; have hcz12_2 : w11.cell? ⟨gb151, 2, none⟩ = some (.int .u64 0) := (blk_cell BK151.out 2).trans rfl; have hcz12_3 : w11.cell? ⟨gb151, 3, none⟩ = some (.int .u64 0) := (blk_cell BK151.out 3).trans rfl; have hcz12_4 : w11.cell? ⟨gb151, 4, none⟩ = some (.int .u64 0) := (blk_cell BK151.out 4).trans rfl; have hcz12_5 : w11.cell? ⟨gb151, 5, none⟩ = some (.string (⟨#[]⟩ : ByteArray)) := (blk_cell BK151.out 5).trans rfl; have hfz12_0 := blk_frozen BK151.out 0; have hfz12_1 := blk_frozen BK151.out 1; have hfz12_2 := blk_frozen BK151.out 2; have hfz12_3 := blk_frozen BK151.out 3; have hfz12_4 := blk_frozen BK151.out 4; have hfz12_5 := blk_frozen BK151.out 5) | ((with_reducible refine gate_callee (f := 63) rfl ?_); refine goesL_ (some 23) rfl rfl Tryd.func63 (by kernel_rfl) rfl #[.agg #[.int .i64 ((rd_T42 (rd_L5 l0 x12_1) x18_2).f0), .int .i64 ((rd_T42 (rd_L5 l0 x12_1) x18_2).f1), .int .u64 ((rd_T42 (rd_L5 l0 x12_1) x18_2).f2), .int .u64 ((rd_T42 (rd_L5 l0 x12_1) x18_2).f3), .int .u64 ((rd_T42 (rd_L5 l0 x12_1) x18_2).f4), .string ((rd_T42 (rd_L5 l0 x12_1) x18_2).f5)]] rfl (by (try simp only [List.map_toArray, List.map_cons, List.map_nil]); first | done | rfl | (simp only [List.length_drop, List.length_take]; rfl)) ?_; (with_reducible refine (spec_GoodTerm.calls k2 ((rd_T42 (rd_L5 l0 x12_1) x18_2).f0) ((rd_T42 (rd_L5 l0 x12_1) x18_2).f1) ((rd_T42 (rd_L5 l0 x12_1) x18_2).f2) ((rd_T42 (rd_L5 l0 x12_1) x18_2).f3) ((rd_T42 (rd_L5 l0 x12_1) x18_2).f4) ((rd_T42 (rd_L5 l0 x12_1) x18_2).f5) true _ A9.out).mono ?_); rintro e w13 ⟨rfl, hb⟩; refine ⟨_, rfl, ?_⟩; have n0_ := Aside0.mk (blk_below (g := gb151) (o := .cells #[.int .i64 ((rd_T42 (rd_L5 l0 x12_1) x18_2).f0), .int .i64 ((rd_T42 (rd_L5 l0 x12_1) x18_2).f1), .int .u64 ((rd_T42 (rd_L5 l0 x12_1) x18_2).f2), .int .u64 ((rd_T42 (rd_L5 l0 x12_1) x18_2).f3), .int .u64 ((rd_T42 (rd_L5 l0 x12_1) x18_2).f4), .string ((rd_T42 (rd_L5 l0 x12_1) x18_2).f5)] 42 (0, 0)) (by (with_reducible repeat (first | refine blk_drewN ?_ _ | refine blk_drew ?_ | refine blk_alloc ?_ _)); refine blk_put (cs := #[.int .i64 ((rd_T42 (rd_L5 l0 x12_1) x18_2).f0), .int .i64 ((rd_T42 (rd_L5 l0 x12_1) x18_2).f1), .int .u64 ((rd_T42 (rd_L5 l0 x12_1) x18_2).f2), .int .u64 ((rd_T42 (rd_L5 l0 x12_1) x18_2).f3), .int .u64 ((rd_T42 (rd_L5 l0 x12_1) x18_2).f4), .string (⟨#[]⟩ : ByteArray)]) ?_ 5 _ rfl; (with_reducible repeat (first | refine blk_drewN ?_ _ | refine blk_drew ?_ | refine blk_alloc ?_ _)); refine blk_put (cs := #[.int .i64 ((rd_T42 (rd_L5 l0 x12_1) x18_2).f0), .int .i64 ((rd_T42 (rd_L5 l0 x12_1) x18_2).f1), .int .u64 ((rd_T42 (rd_L5 l0 x12_1) x18_2).f2), .int .u64 ((rd_T42 (rd_L5 l0 x12_1) x18_2).f3), .int .u64 0, .string (⟨#[]⟩ : ByteArray)]) ?_ 4 _ rfl; (with_reducible repeat (first | refine blk_drewN ?_ _ | refine blk_drew ?_ | refine blk_alloc ?_ _)); refine blk_put (cs := #[.int .i64 ((rd_T42 (rd_L5 l0 x12_1) x18_2).f0), .int .i64 ((rd_T42 (rd_L5 l0 x12_1) x18_2).f1), .int .u64 ((rd_T42 (rd_L5 l0 x12_1) x18_2).f2), .int .u64 0, .int .u64 0, .string (⟨#[]⟩ : ByteArray)]) ?_ 3 _ rfl; (with_reducible repeat (first | refine blk_drewN ?_ _ | refine blk_drew ?_ | refine blk_alloc ?_ _)); refine blk_put (cs := #[.int .i64 ((rd_T42 (rd_L5 l0 x12_1) x18_2).f0), .int .i64 ((rd_T42 (rd_L5 l0 x12_1) x18_2).f1), .int .u64 0, .int .u64 0, .int .u64 0, .string (⟨#[]⟩ : ByteArray)]) ?_ 2 _ rfl; (with_reducible repeat (first | refine blk_drewN ?_ _ | refine blk_drew ?_ | refine blk_alloc ?_ _)); refine blk_put (cs := #[.int .i64 ((rd_T42 (rd_L5 l0 x12_1) x18_2).f0), .int .i64 0, .int .u64 0, .int .u64 0, .int .u64 0, .string (⟨#[]⟩ : ByteArray)]) ?_ 1 _ rfl; (with_reducible repeat (first | refine blk_drewN ?_ _ | refine blk_drew ?_ | refine blk_alloc ?_ _)); refine blk_put (cs := #[.int .i64 0, .int .i64 0, .int .u64 0, .int .u64 0, .int .u64 0, .string (⟨#[]⟩ : ByteArray)]) ?_ 0 _ rfl; (with_reducible repeat (first | refine blk_drewN ?_ _ | refine blk_drew ?_ | refine blk_alloc ?_ _)); exact BK151.out) hb); have n1_ := Aside0.mk (below_step (hbl HB.out) hb); clear BK151; clear HB; have BK151 := n0_; have HB := n1_; clear n0_ n1_; (try clear hb); (try clear hb2); (try clear hk); (try clear hi)))
            go_roundg k2
            case measure => have := HK1.out; have := HK2.out; omega
            case rel => exact ⟨(wrap64 (x18_2 + 1)), hrf, H', ⟨by have := HK1.out; have := HK2.out; omega⟩, ⟨hbl HB.out⟩⟩
           ·
            replace c10 := Bool.eq_false_iff.mpr c10
            subst c10
            have H1 : (some false) = some r := by rw [if_neg (show ¬ (false = true) by decide)] at H; exact H
            clear H
            have H := H1
            clear H1
            obtain rfl := Option.some.inj H
            have p150 : 0 ≤ (x18_2 : Int) := of_decide_eq_true (by assumption)
            have q150 : x18_2 < ((rd_L5 l0 x12_1).length : Int) := of_decide_eq_true (by assumption)
            obtain ⟨ad150, e150, hx150_0, hx150_1, hx150_2, hx150_3, hx150_4, hx150_5⟩ := at_T42 HR149_0.out x18_2 p150 q150
            cases e150
            replace hx150_0 := (HB.out.cell (World.block_lt_of_cell? w _ hx150_0)).trans hx150_0
            replace hx150_1 := (HB.out.cell (World.block_lt_of_cell? w _ hx150_1)).trans hx150_1
            replace hx150_2 := (HB.out.cell (World.block_lt_of_cell? w _ hx150_2)).trans hx150_2
            replace hx150_3 := (HB.out.cell (World.block_lt_of_cell? w _ hx150_3)).trans hx150_3
            replace hx150_4 := (HB.out.cell (World.block_lt_of_cell? w _ hx150_4)).trans hx150_4
            replace hx150_5 := (HB.out.cell (World.block_lt_of_cell? w _ hx150_5)).trans hx150_5
            replace p150 := eq_true p150
            replace q150 := eq_true q150
            go_wp2_with (first | ((with_reducible refine gate_dst (N := 9) rfl ?_); refine box_event ?hg (N := 9) ?hd (cs := #[.int .i64 0, .int .i64 0, .int .u64 0, .int .u64 0, .int .u64 0, .string (⟨#[]⟩ : ByteArray)]) (t := 42) ?hr ?_; (case hd => rfl); (case hg => rfl); (case hr => first | (go_simp; done) | (go_simp; rfl)); intro gb151 hg w14 hbox hb; have n0_ := Aside0.mk (below_step (hbl HB.out) hb); have n1_ := Aside0.mk (hbox); have n2_ := Aside0.mk ((by rw [hg]; exact (below_size (hbl HB.out)) : w.heap.size ≤ gb151)); have n3_ := Aside0.mk ((by rw [hg]; exact (below_size (hbl HB.out)) : w.heap.size ≤ gb151)); clear HB; have HB := n0_; have BK151 := n1_; have GW151 := n2_; have GE151 := n3_; clear n0_ n1_ n2_ n3_; clear hb hbox hg; have hcz15_0 : w14.cell? ⟨gb151, 0, none⟩ = some (.int .i64 0) := (blk_cell BK151.out 0).trans rfl; have hcz15_1 : w14.cell? ⟨gb151, 1, none⟩ = some (.int .i64 0) := (blk_cell BK151.out 1).trans rfl; have hcz15_2 : w14.cell? ⟨gb151, 2, none⟩ = some (.int .u64 0) := (blk_cell BK151.out 2).trans rfl; have hcz15_3 : w14.cell? ⟨gb151, 3, none⟩ = some (.int .u64 0) := (blk_cell BK151.out 3).trans rfl; have hcz15_4 : w14.cell? ⟨gb151, 4, none⟩ = some (.int .u64 0) := (blk_cell BK151.out 4).trans rfl; have hcz15_5 : w14.cell? ⟨gb151, 5, none⟩ = some (.string (⟨#[]⟩ : ByteArray)) := (blk_cell BK151.out 5).trans rfl; have hfz15_0 := blk_frozen BK151.out 0; have hfz15_1 := blk_frozen BK151.out 1; have hfz15_2 := blk_frozen BK151.out 2; have hfz15_3 := blk_frozen BK151.out 3; have hfz15_4 := blk_frozen BK151.out 4; have hfz15_5 := blk_frozen BK151.out 5) | ((with_reducible refine gate_callee (f := 63) rfl ?_); refine goesL_ (some 23) rfl rfl Tryd.func63 (by kernel_rfl) rfl #[.agg #[.int .i64 ((rd_T42 (rd_L5 l0 x12_1) x18_2).f0), .int .i64 ((rd_T42 (rd_L5 l0 x12_1) x18_2).f1), .int .u64 ((rd_T42 (rd_L5 l0 x12_1) x18_2).f2), .int .u64 ((rd_T42 (rd_L5 l0 x12_1) x18_2).f3), .int .u64 ((rd_T42 (rd_L5 l0 x12_1) x18_2).f4), .string ((rd_T42 (rd_L5 l0 x12_1) x18_2).f5)]] rfl (by (try simp only [List.map_toArray, List.map_cons, List.map_nil]); first | done | rfl | (simp only [List.length_drop, List.length_take]; rfl)) ?_; (with_reducible refine (spec_GoodTerm.calls k2 ((rd_T42 (rd_L5 l0 x12_1) x18_2).f0) ((rd_T42 (rd_L5 l0 x12_1) x18_2).f1) ((rd_T42 (rd_L5 l0 x12_1) x18_2).f2) ((rd_T42 (rd_L5 l0 x12_1) x18_2).f3) ((rd_T42 (rd_L5 l0 x12_1) x18_2).f4) ((rd_T42 (rd_L5 l0 x12_1) x18_2).f5) false _ A9.out).mono ?_); rintro e w16 ⟨rfl, hb⟩; refine ⟨_, rfl, ?_⟩; have n0_ := Aside0.mk (blk_below (g := gb151) (o := .cells #[.int .i64 ((rd_T42 (rd_L5 l0 x12_1) x18_2).f0), .int .i64 ((rd_T42 (rd_L5 l0 x12_1) x18_2).f1), .int .u64 ((rd_T42 (rd_L5 l0 x12_1) x18_2).f2), .int .u64 ((rd_T42 (rd_L5 l0 x12_1) x18_2).f3), .int .u64 ((rd_T42 (rd_L5 l0 x12_1) x18_2).f4), .string ((rd_T42 (rd_L5 l0 x12_1) x18_2).f5)] 42 (0, 0)) (by (with_reducible repeat (first | refine blk_drewN ?_ _ | refine blk_drew ?_ | refine blk_alloc ?_ _)); refine blk_put (cs := #[.int .i64 ((rd_T42 (rd_L5 l0 x12_1) x18_2).f0), .int .i64 ((rd_T42 (rd_L5 l0 x12_1) x18_2).f1), .int .u64 ((rd_T42 (rd_L5 l0 x12_1) x18_2).f2), .int .u64 ((rd_T42 (rd_L5 l0 x12_1) x18_2).f3), .int .u64 ((rd_T42 (rd_L5 l0 x12_1) x18_2).f4), .string (⟨#[]⟩ : ByteArray)]) ?_ 5 _ rfl; (with_reducible repeat (first | refine blk_drewN ?_ _ | refine blk_drew ?_ | refine blk_alloc ?_ _)); refine blk_put (cs := #[.int .i64 ((rd_T42 (rd_L5 l0 x12_1) x18_2).f0), .int .i64 ((rd_T42 (rd_L5 l0 x12_1) x18_2).f1), .int .u64 ((rd_T42 (rd_L5 l0 x12_1) x18_2).f2), .int .u64 ((rd_T42 (rd_L5 l0 x12_1) x18_2).f3), .int .u64 0, .string (⟨#[]⟩ : ByteArray)]) ?_ 4 _ rfl; (with_reducible repeat (first | refine blk_drewN ?_ _ | refine blk_drew ?_ | refine blk_alloc ?_ _)); refine blk_put (cs := #[.int .i64 ((rd_T42 (rd_L5 l0 x12_1) x18_2).f0), .int .i64 ((rd_T42 (rd_L5 l0 x12_1) x18_2).f1), .int .u64 ((rd_T42 (rd_L5 l0 x12_1) x18_2).f2), .int .u64 0, .int .u64 0, .string (⟨#[]⟩ : ByteArray)]) ?_ 3 _ rfl; (with_reducible repeat (first | refine blk_drewN ?_ _ | refine blk_drew ?_ | refine blk_alloc ?_ _)); refine blk_put (cs := #[.int .i64 ((rd_T42 (rd_L5 l0 x12_1) x18_2).f0), .int .i64 ((rd_T42 (rd_L5 l0 x12_1) x18_2).f1), .int .u64 0, .int .u64 0, .int .u64 0, .string (⟨#[]⟩ : ByteArray)]) ?_ 2 _ rfl; (with_reducible repeat (first | refine blk_drewN ?_ _ | refine blk_drew ?_ | refine blk_alloc ?_ _)); refine blk_put (cs := #[.int .i64 ((rd_T42 (rd_L5 l0 x12_1) x18_2).f0), .int .i64 0, .int .u64 0, .int .u64 0, .int .u64 0, .string (⟨#[]⟩ : ByteArray)]) ?_ 1 _ rfl; (with_reducible repeat (first | refine blk_drewN ?_ _ | refine blk_drew ?_ | refine blk_alloc ?_ _)); refine blk_put (cs := #[.int .i64 0, .int .i64 0, .int .u64 0, .int .u64 0, .int .u64 0, .string (⟨#[]⟩ : ByteArray)]) ?_ 0 _ rfl; (with_reducible repeat (first | refine blk_drewN ?_ _ | refine blk_drew ?_ | refine blk_alloc ?_ _)); exact BK151.out) hb); have n1_ := Aside0.mk (below_step (hbl HB.out) hb); clear BK151; clear HB; have BK151 := n0_; have HB := n1_; clear n0_ n1_; (try clear hb); (try clear hb2); (try clear hk); (try clear hi)))
            go_ret
            exact ⟨hrf, hbl HB.out⟩
          ·
           rw [if_neg c8] at H
           exact absurd H (by simp)
         ·
          rw [if_neg c7] at H
          exact absurd H (by simp)
        ·
         rw [if_neg c6] at H
         have c6b0 : decide (x18_2 < ((rd_L5 l0 x12_1).length : Int)) = false := decide_eq_false c6
         clear c6
         by_cases c17 : ((rd_L5 l0 x12_1).length : Int) = 0
         ·
          rw [if_pos c17] at H
          have c17b0 : (((rd_L5 l0 x12_1).length : Int) == 0) = true := beq_iff_eq.mpr c17
          have c17b1 : (((rd_L5 l0 x12_1).length : Int) != 0) = false := bne_eq_false_iff_eq.mpr c17
          clear c17
          obtain rfl := Option.some.inj H
          go_wp2
          go_ret
          exact ⟨hrf, hbl HB.out⟩
         ·
          rw [if_neg c17] at H
          have c17b0 : (((rd_L5 l0 x12_1).length : Int) == 0) = false := beq_eq_false_iff_ne.mpr c17
          have c17b1 : (((rd_L5 l0 x12_1).length : Int) != 0) = true := bne_iff_ne.mpr c17
          have c17b2 : ¬ ((rd_L5 l0 x12_1) = []) := fun h_ => c17 (by rw [h_]; rfl)
          by_cases c18 : (wrap64 (x5_1 + ((rd_L5 l0 x12_1).length : Int))) > a1
          ·
           rw [if_pos c18] at H
           have c18b0 : decide (a1 < (wrap64 (x5_1 + ((rd_L5 l0 x12_1).length : Int)))) = true := decide_eq_true c18
           clear c18
           obtain rfl := Option.some.inj H
           go_wp2
           go_ret
           exact ⟨hrf, hbl HB.out⟩
          ·
           rw [if_neg c18] at H
           have c18b0 : decide (a1 < (wrap64 (x5_1 + ((rd_L5 l0 x12_1).length : Int)))) = false := decide_eq_false c18
           clear c18
           have H' := Aside0.mk H
           clear H
           go_wp2
           go_roundg k2
           case measure => have := HK1.out; have := HK2.out; omega
           case rel => exact ⟨(wrap64 (x5_1 + ((rd_L5 l0 x12_1).length : Int))), (wrap64 (x12_1 + 1)), hrf, hrf, H', ⟨by have := HK1.out; have := HK2.out; omega⟩, ⟨hbl HB.out⟩⟩
     ·
      rw [if_neg c5] at H
      exact absurd H (by simp)
    ·
     rw [if_neg c4] at H
     exact absurd H (by simp)
   ·
    rw [if_neg c3] at H
    have c3b0 : decide (x12_1 < (l0.length : Int)) = false := decide_eq_false c3
    clear c3
    obtain rfl := Option.some.inj H
    go_wp2
    go_ret
    exact ⟨hrf, hbl HB.out⟩

/-! ### laws_scGood: function 74 -/
mutual
def laws_scGood.l0 : Nat → List (List (S42)) → Int → Int → Option (Bool)
 | 0, _, _, _ => none
 | k + 1, x10, x11, x12 => if x12 < x11 then (if 0 ≤ x12 then (if x12 < (x10.length : Int) then (laws_scGood.l1 k x10 x11 x12 (rd_L5 x10 x12) ((rd_L5 x10 x12).length : Int) 0) else (none)) else (none)) else (some true)
def laws_scGood.l1 : Nat → List (List (S42)) → Int → Int → List (S42) → Int → Int → Option (Bool)
 | 0, _, _, _, _, _, _ => none
 | k + 1, x10, x11, x12, x16, x17, x18 => if x18 < x17 then (if 0 ≤ x18 then (if x18 < (x16.length : Int) then (if (((rd_T42 x16 x18).f5).size : Int) > 64 then (some false) else (laws_scGood.l1 k x10 x11 x12 x16 x17 (wrap64 (x18 + 1)))) else (none)) else (none)) else (laws_scGood.l0 k x10 x11 (wrap64 (x12 + 1)))
end
def laws_scGood.f (k : Nat) (l0 : List (List (S42))) : Option (Bool) := (spec_GoodTerms.f k l0 24).bind fun t153 => (if t153 = true then (laws_scGood.l0 k l0 (l0.length : Int) 0) else (some false))
theorem laws_scGood.mono_l : ∀ k, (∀ y0 y1 y2, LeO (laws_scGood.l0 k y0 y1 y2) (laws_scGood.l0 (k + 1) y0 y1 y2)) ∧ (∀ y0 y1 y2 y3 y4 y5, LeO (laws_scGood.l1 k y0 y1 y2 y3 y4 y5) (laws_scGood.l1 (k + 1) y0 y1 y2 y3 y4 y5))
 | 0 => ⟨fun _ _ _ r h => by simp [laws_scGood.l0] at h, fun _ _ _ _ _ _ r h => by simp [laws_scGood.l1] at h⟩
 | k + 1 => by
  obtain ⟨ih0, ih1⟩ := laws_scGood.mono_l k
  refine ⟨?_, ?_⟩
  ·
   intro y0 y1 y2
   unfold laws_scGood.l0
   repeat' first
   | (with_reducible exact ih0 _ _ _)
   | (with_reducible exact ih1 _ _ _ _ _ _)
   | (with_reducible exact spec_GoodTerms.mono _ _ _)
   | (with_reducible exact LeO.refl _)
   | (with_reducible exact LeO.none _)
   | (with_reducible refine LeO.ite ?_ ?_)
   | (with_reducible refine LeO.bind ?_ (fun _ => ?_))
   | exact ih0 _ _ _
   | exact ih1 _ _ _ _ _ _
   | exact spec_GoodTerms.mono _ _ _
   | exact LeO.none _
   | refine LeO.ite ?_ ?_
   | refine LeO.bind ?_ (fun _ => ?_)
  ·
   intro y0 y1 y2 y3 y4 y5
   unfold laws_scGood.l1
   repeat' first
   | (with_reducible exact ih0 _ _ _)
   | (with_reducible exact ih1 _ _ _ _ _ _)
   | (with_reducible exact spec_GoodTerms.mono _ _ _)
   | (with_reducible exact LeO.refl _)
   | (with_reducible exact LeO.none _)
   | (with_reducible refine LeO.ite ?_ ?_)
   | (with_reducible refine LeO.bind ?_ (fun _ => ?_))
   | exact ih0 _ _ _
   | exact ih1 _ _ _ _ _ _
   | exact spec_GoodTerms.mono _ _ _
   | exact LeO.none _
   | refine LeO.ite ?_ ?_
   | refine LeO.bind ?_ (fun _ => ?_)
theorem laws_scGood.mono : ∀ a0 k, LeO (laws_scGood.f k a0) (laws_scGood.f (k + 1) a0) := by
 intro a0 k
 obtain ⟨ih0, ih1⟩ := laws_scGood.mono_l k
 unfold laws_scGood.f
 repeat' first
   | (with_reducible exact ih0 _ _ _)
   | (with_reducible exact ih1 _ _ _ _ _ _)
   | (with_reducible exact spec_GoodTerms.mono _ _ _)
   | (with_reducible exact LeO.refl _)
   | (with_reducible exact LeO.none _)
   | (with_reducible refine LeO.ite ?_ ?_)
   | (with_reducible refine LeO.bind ?_ (fun _ => ?_))
   | exact ih0 _ _ _
   | exact ih1 _ _ _ _ _ _
   | exact spec_GoodTerms.mono _ _ _
   | exact LeO.none _
   | refine LeO.ite ?_ ?_
   | refine LeO.bind ?_ (fun _ => ?_)
set_option maxHeartbeats 8000000 in
set_option maxRecDepth 100000 in
theorem laws_scGood.calls (k : Nat) (A0 : Option Addr) (c0 : Nat) (l0 : List (List (S42))) (r : Bool) (w : World) (hr0 : Kd.C (Kd.slice 42 k42) w A0 l0.length l0) (hc0 : l0.length ≤ c0) (h : laws_scGood.f k l0 = some r) :
  Calls Tryd.prog 74 #[.slice A0 l0.length c0] w fun e w' => e = .returned (.bool r) ∧ Below w.heap.size w w' := by
 have hu42 := Tryd.underlying42
 have HR0 := Aside0.mk hr0
 have HC0 := Aside0.mk hc0
 clear hr0 hc0
 have HB := Aside0.mk (Below.refl w.heap.size w)
 have H : ((spec_GoodTerms.f k l0 24).bind fun t153 => (if t153 = true then (laws_scGood.l0 k l0 (l0.length : Int) 0) else (some false))) = some r := h
 clear h
 replace H := Option.bind_eq_some_iff.mp H
 obtain ⟨t153, A20, H⟩ := H
 replace H : (if t153 = true then (laws_scGood.l0 k l0 (l0.length : Int) 0) else (some false)) = some r := H
 have A2 := Aside0.mk A20
 clear A20
 by_cases c3 : t153 = true
 ·
  subst c3
  have H1 : (laws_scGood.l0 k l0 (l0.length : Int) 0) = some r := by rw [if_pos rfl] at H; exact H
  clear H
  have H := H1
  clear H1
  have H' := Aside0.mk H
  clear H
  go_enter Tryd.func74, Tryd.ntmps74
  go_wp2_with (first | ((with_reducible refine gate_callee (f := 115) rfl ?_); refine goesL_ (some 8) rfl rfl Tryd.func115 (by kernel_rfl) rfl #[.slice A0 l0.length c0, .int .i64 24] rfl (by (try simp only [List.map_toArray, List.map_cons, List.map_nil]); first | done | rfl | (simp only [List.length_drop, List.length_take]; rfl)) ?_; (with_reducible refine (spec_GoodTerms.calls k _ _ l0 24 true _ ?side1 ?side2 A2.out).mono ?_); (case side1 => repeat (first | exact HR0.out | (with_reducible refine Kd.C_alloc ?_ _) | (with_reducible refine Kd.C_drewN ?_ _) | (with_reducible refine Kd.C_drew ?_))); (case side2 => exact HC0.out); rintro e w4 ⟨rfl, hb⟩; refine ⟨_, rfl, ?_⟩; have n0_ := Aside0.mk (below_step (hbl HB.out) hb); clear HB; have HB := n0_; clear n0_; (try clear hb); (try clear hb2); (try clear hk); (try clear hi)))
  go_loopg [12] k (fun kq v12 w' => ∃ (x12_1 : Int), v12 = .int .i64 x12_1 ∧ Aside0 (laws_scGood.l0 kq l0 (l0.length : Int) x12_1 = some r) ∧ Aside0 (kq ≤ k) ∧ Aside0 (Below w.heap.size w w'))
  case atStart => exact ⟨(0), hrf, H', ⟨Nat.le_refl _⟩, ⟨hbl HB.out⟩⟩
  case round =>
   clear H'
   try clear c1
   try clear p2
   try clear c3
   obtain ⟨x12_1, rfl, HA, HK1, HB⟩ := hrel
   cases gk with
   | zero => exact absurd HA.out (by simp [laws_scGood.l0])
   | succ k1 =>
    have H := HA.out
    clear HA
    simp only [laws_scGood.l0] at H
    by_cases c5 : x12_1 < (l0.length : Int)
    ·
     rw [if_pos c5] at H
     have c5b0 : decide (x12_1 < (l0.length : Int)) = true := decide_eq_true c5
     clear c5
     by_cases c6 : 0 ≤ x12_1
     ·
      rw [if_pos c6] at H
      have c6b0 : decide (0 ≤ x12_1) = true := decide_eq_true c6
      clear c6
      by_cases c7 : x12_1 < (l0.length : Int)
      ·
       rw [if_pos c7] at H
       have c7b0 : decide (x12_1 < (l0.length : Int)) = true := decide_eq_true c7
       clear c7
       have H' := Aside0.mk H
       clear H
       have p154 : 0 ≤ (x12_1 : Int) := of_decide_eq_true (by assumption)
       have q154 : x12_1 < (l0.length : Int) := of_decide_eq_true (by assumption)
       obtain ⟨ad154, A154_0, c154_0, e154, hx154_0, hl154_0, hi154_0⟩ := at_L5 HR0.out x12_1 p154 q154
       cases e154
       replace hx154_0 := (HB.out.cell (World.block_lt_of_cell? w _ hx154_0)).trans hx154_0
       have HR154_0 := Aside0.mk hi154_0
       have HC154_0 := Aside0.mk hl154_0
       clear hi154_0 hl154_0
       replace p154 := eq_true p154
       replace q154 := eq_true q154
       go_wp2
       go_loopg [18] k1 (fun kq v18 w' => ∃ (x18_2 : Int), v18 = .int .i64 x18_2 ∧ Aside0 (laws_scGood.l1 kq l0 (l0.length : Int) x12_1 (rd_L5 l0 x12_1) ((rd_L5 l0 x12_1).length : Int) x18_2 = some r) ∧ Aside0 (kq ≤ k1) ∧ Aside0 (Below w.heap.size w w'))
       case atStart => exact ⟨(0), hrf, H', ⟨Nat.le_refl _⟩, ⟨hbl HB.out⟩⟩
       case round =>
        clear H'
        try clear c1
        try clear p1
        try clear q1
        try clear hx1
        try clear p2
        try clear c3
        try clear c5
        try clear c5b0
        try clear c6
        try clear c6b0
        try clear c7
        try clear c7b0
        try clear hx154_0
        try clear p154
        try clear p2
        try clear q154
        obtain ⟨x18_2, rfl, HA, HK2, HB⟩ := hrel
        cases gk with
        | zero => exact absurd HA.out (by simp [laws_scGood.l1])
        | succ k2 =>
         have H := HA.out
         clear HA
         simp only [laws_scGood.l1] at H
         by_cases c8 : x18_2 < ((rd_L5 l0 x12_1).length : Int)
         ·
          rw [if_pos c8] at H
          have c8b0 : decide (x18_2 < ((rd_L5 l0 x12_1).length : Int)) = true := decide_eq_true c8
          clear c8
          by_cases c9 : 0 ≤ x18_2
          ·
           rw [if_pos c9] at H
           have c9b0 : decide (0 ≤ x18_2) = true := decide_eq_true c9
           clear c9
           by_cases c10 : x18_2 < ((rd_L5 l0 x12_1).length : Int)
           ·
            rw [if_pos c10] at H
            have c10b0 : decide (x18_2 < ((rd_L5 l0 x12_1).length : Int)) = true := decide_eq_true c10
            clear c10
            by_cases c11 : (((rd_T42 (rd_L5 l0 x12_1) x18_2).f5).size : Int) > 64
            ·
             rw [if_pos c11] at H
             have c11b0 : decide (64 < (((rd_T42 (rd_L5 l0 x12_1) x18_2).f5).size : Int)) = true := decide_eq_true c11
             have c11b1 : decide (64 < ((rd_T42 (rd_L5 l0 x12_1) x18_2).f5).size) = true := decide_eq_true (by omega)
             clear c11
             obtain rfl := Option.some.inj H
             have p155 : 0 ≤ (x18_2 : Int) := of_decide_eq_true (by assumption)
             have q155 : x18_2 < ((rd_L5 l0 x12_1).length : Int) := of_decide_eq_true (by assumption)
             obtain ⟨ad155, e155, hx155_0, hx155_1, hx155_2, hx155_3, hx155_4, hx155_5⟩ := at_T42 HR154_0.out x18_2 p155 q155
             cases e155
             replace hx155_0 := (HB.out.cell (World.block_lt_of_cell? w _ hx155_0)).trans hx155_0
             replace hx155_1 := (HB.out.cell (World.block_lt_of_cell? w _ hx155_1)).trans hx155_1
             replace hx155_2 := (HB.out.cell (World.block_lt_of_cell? w _ hx155_2)).trans hx155_2
             replace hx155_3 := (HB.out.cell (World.block_lt_of_cell? w _ hx155_3)).trans hx155_3
             replace hx155_4 := (HB.out.cell (World.block_lt_of_cell? w _ hx155_4)).trans hx155_4
             replace hx155_5 := (HB.out.cell (World.block_lt_of_cell? w _ hx155_5)).trans hx155_5
             replace p155 := eq_true p155
             replace q155 := eq_true q155
             go_wp2_with (first | ((with_reducible refine gate_dst (N := 6) rfl ?_); refine box_event ?hg (N := 6) ?hd (cs := #[.int .i64 0, .int .i64 0, .int .u64 0, .int .u64 0, .int .u64 0, .string (⟨#[]⟩ : ByteArray)]) (t := 42) ?hr ?_; (case hd => rfl); (case hg => rfl); (case hr => first | (go_simp; done) | (go_simp; rfl)); intro gb156 hg w12 hbox hb; have n0_ := Aside0.mk (below_step (hbl HB.out) hb); have n1_ := Aside0.mk (hbox); have n2_ := Aside0.mk ((by rw [hg]; exact (below_size (hbl HB.out)) : w.heap.size ≤ gb156)); have n3_ := Aside0.mk ((by rw [hg]; exact (below_size (hbl HB.out)) : w.heap.size ≤ gb156)); clear HB; have HB := n0_; have BK156 := n1_; have GW156 := n2_; have GE156 := n3_; clear n0_ n1_ n2_ n3_; clear hb hbox hg; have hcz13_0 : w12.cell? ⟨gb156, 0, none⟩ = some (.int .i64 0) := (blk_cell BK156.out 0).trans rfl; have hcz13_1 : w12.cell? ⟨gb156, 1, none⟩ = some (.int .i64 0) := (blk_cell BK156.out 1).trans rfl; have hcz13_2 : w12.cell? ⟨gb156, 2, none⟩ = some (.int .u64 0) := (blk_cell BK156.out 2).trans rfl; have hcz13_3 : w12.cell? ⟨gb156, 3, none⟩ = some (.int .u64 0) := (blk_cell BK156.out 3).trans rfl; have hcz13_4 : w12.cell? ⟨gb156, 4, none⟩ = some (.int .u64 0) := (blk_cell BK156.out 4).trans rfl; have hcz13_5 : w12.cell? ⟨gb156, 5, none⟩ = some (.string (⟨#[]⟩ : ByteArray)) := (blk_cell BK156.out 5).trans rfl; have hfz13_0 := blk_frozen BK156.out 0; have hfz13_1 := blk_frozen BK156.out 1; have hfz13_2 := blk_frozen BK156.out 2; have hfz13_3 := blk_frozen BK156.out 3; have hfz13_4 := blk_frozen BK156.out 4; have hfz13_5 := blk_frozen BK156.out 5))
             go_ret
             exact ⟨hrf, hbl HB.out⟩
            ·
             rw [if_neg c11] at H
             have c11b0 : decide (64 < (((rd_T42 (rd_L5 l0 x12_1) x18_2).f5).size : Int)) = false := decide_eq_false c11
             have c11b1 : decide (64 < ((rd_T42 (rd_L5 l0 x12_1) x18_2).f5).size) = false := decide_eq_false (by omega)
             clear c11
             have H' := Aside0.mk H
             clear H
             have p155 : 0 ≤ (x18_2 : Int) := of_decide_eq_true (by assumption)
             have q155 : x18_2 < ((rd_L5 l0 x12_1).length : Int) := of_decide_eq_true (by assumption)
             obtain ⟨ad155, e155, hx155_0, hx155_1, hx155_2, hx155_3, hx155_4, hx155_5⟩ := at_T42 HR154_0.out x18_2 p155 q155
             cases e155
             replace hx155_0 := (HB.out.cell (World.block_lt_of_cell? w _ hx155_0)).trans hx155_0
             replace hx155_1 := (HB.out.cell (World.block_lt_of_cell? w _ hx155_1)).trans hx155_1
             replace hx155_2 := (HB.out.cell (World.block_lt_of_cell? w _ hx155_2)).trans hx155_2
             replace hx155_3 := (HB.out.cell (World.block_lt_of_cell? w _ hx155_3)).trans hx155_3
             replace hx155_4 := (HB.out.cell (World.block_lt_of_cell? w _ hx155_4)).trans hx155_4
             replace hx155_5 := (HB.out.cell (World.block_lt_of_cell? w _ hx155_5)).trans hx155_5
             replace p155 := eq_true p155
             replace q155 := eq_true q155
             go_wp2_with (first | ((with_reducible refine gate_dst (N := 6) rfl ?_); refine box_event ?hg (N := 6) ?hd (cs := #[.int .i64 0, .int .i64 0, .int .u64 0, .int .u64 0, .int .u64 0, .string (⟨#[]⟩ : ByteArray)]) (t := 42) ?hr ?_; (case hd => rfl); (case hg => rfl); (case hr => first | (go_simp; done) | (go_simp; rfl)); intro gb156 hg w14 hbox hb; have n0_ := Aside0.mk (below_step (hbl HB.out) hb); have n1_ := Aside0.mk (hbox); have n2_ := Aside0.mk ((by rw [hg]; exact (below_size (hbl HB.out)) : w.heap.size ≤ gb156)); have n3_ := Aside0.mk ((by rw [hg]; exact (below_size (hbl HB.out)) : w.heap.size ≤ gb156)); clear HB; have HB := n0_; have BK156 := n1_; have GW156 := n2_; have GE156 := n3_; clear n0_ n1_ n2_ n3_; clear hb hbox hg; have hcz15_0 : w14.cell? ⟨gb156, 0, none⟩ = some (.int .i64 0) := (blk_cell BK156.out 0).trans rfl; have hcz15_1 : w14.cell? ⟨gb156, 1, none⟩ = some (.int .i64 0) := (blk_cell BK156.out 1).trans rfl; have hcz15_2 : w14.cell? ⟨gb156, 2, none⟩ = some (.int .u64 0) := (blk_cell BK156.out 2).trans rfl; have hcz15_3 : w14.cell? ⟨gb156, 3, none⟩ = some (.int .u64 0) := (blk_cell BK156.out 3).trans rfl; have hcz15_4 : w14.cell? ⟨gb156, 4, none⟩ = some (.int .u64 0) := (blk_cell BK156.out 4).trans rfl; have hcz15_5 : w14.cell? ⟨gb156, 5, none⟩ = some (.string (⟨#[]⟩ : ByteArray)) := (blk_cell BK156.out 5).trans rfl; have hfz15_0 := blk_frozen BK156.out 0; have hfz15_1 := blk_frozen BK156.out 1; have hfz15_2 := blk_frozen BK156.out 2; have hfz15_3 := blk_frozen BK156.out 3; have hfz15_4 := blk_frozen BK156.out 4; have hfz15_5 := blk_frozen BK156.out 5))
             go_roundg k2
             case measure => have := HK1.out; have := HK2.out; omega
             case rel => exact ⟨(wrap64 (x18_2 + 1)), hrf, H', ⟨by have := HK1.out; have := HK2.out; omega⟩, ⟨hbl HB.out⟩⟩
           ·
            rw [if_neg c10] at H
            exact absurd H (by simp)
          ·
           rw [if_neg c9] at H
           exact absurd H (by simp)
         ·
          rw [if_neg c8] at H
          have c8b0 : decide (x18_2 < ((rd_L5 l0 x12_1).length : Int)) = false := decide_eq_false c8
          clear c8
          have H' := Aside0.mk H
          clear H
          go_wp2
          go_roundg k2
          case measure => have := HK1.out; have := HK2.out; omega
          case rel => exact ⟨(wrap64 (x12_1 + 1)), hrf, H', ⟨by have := HK1.out; have := HK2.out; omega⟩, ⟨hbl HB.out⟩⟩
      ·
       rw [if_neg c7] at H
       exact absurd H (by simp)
     ·
      rw [if_neg c6] at H
      exact absurd H (by simp)
    ·
     rw [if_neg c5] at H
     have c5b0 : decide (x12_1 < (l0.length : Int)) = false := decide_eq_false c5
     clear c5
     obtain rfl := Option.some.inj H
     go_wp2
     go_ret
     exact ⟨hrf, hbl HB.out⟩
 ·
  replace c3 := Bool.eq_false_iff.mpr c3
  subst c3
  have H1 : (some false) = some r := by rw [if_neg (show ¬ (false = true) by decide)] at H; exact H
  clear H
  have H := H1
  clear H1
  obtain rfl := Option.some.inj H
  go_enter Tryd.func74, Tryd.ntmps74
  go_wp2_with (first | ((with_reducible refine gate_callee (f := 115) rfl ?_); refine goesL_ (some 8) rfl rfl Tryd.func115 (by kernel_rfl) rfl #[.slice A0 l0.length c0, .int .i64 24] rfl (by (try simp only [List.map_toArray, List.map_cons, List.map_nil]); first | done | rfl | (simp only [List.length_drop, List.length_take]; rfl)) ?_; (with_reducible refine (spec_GoodTerms.calls k _ _ l0 24 false _ ?side1 ?side2 A2.out).mono ?_); (case side1 => repeat (first | exact HR0.out | (with_reducible refine Kd.C_alloc ?_ _) | (with_reducible refine Kd.C_drewN ?_ _) | (with_reducible refine Kd.C_drew ?_))); (case side2 => exact HC0.out); rintro e w16 ⟨rfl, hb⟩; refine ⟨_, rfl, ?_⟩; have n0_ := Aside0.mk (below_step (hbl HB.out) hb); clear HB; have HB := n0_; clear n0_; (try clear hb); (try clear hb2); (try clear hk); (try clear hi)))
  go_ret
  exact ⟨hrf, hbl HB.out⟩

/-! ### spec_Spoken: function 92 -/
def spec_Spoken.j0 : Nat → Int → Int → Int → Int → Int → ByteArray → Int → Int → Int → ByteArray → ByteArray → Int → Int → Int → ByteArray → ByteArray → Option (Bool)
 | 0, _, _, _, _, _, _, _, _, _, _, _, _, _, _, _, _ => none
 | k + 1, x158000, x158001, x158002, x158003, x158004, x158005, x159000, x159001, x159002, x159003, x159004, x160000, x160001, x160002, x160003, x160004 => if x158001 = 3 then (some true) else (if x158000 = 5 then ((Hand.CompareNumbers.f x159000 x159001 x159002 x159003 x159004 x160000 x160001 x160002 x160003 x160004 3).bind fun t160 => (some (t160 != 0))) else (if x158000 = 1 then (some (x159003.toList == ([] : List UInt8))) else (some true)))
def spec_Spoken.f (k : Nat) (a0_0 : Int) (a0_1 : Int) (a0_2 : Int) (a0_3 : Int) (a0_4 : Int) (a0_5 : ByteArray) (a1_0 : Int) (a1_1 : Int) (a1_2 : Int) (a1_3 : ByteArray) (a1_4 : ByteArray) : Option (Bool) := if a0_1 = 2 then (spec_Spoken.j0 k a0_0 a0_1 a0_2 a0_3 a0_4 a0_5 a1_0 a1_1 a1_2 a1_3 a1_4 a0_2 (IntKind.u64.wrap (a0_3 + 1)) 0 (⟨#[]⟩ : ByteArray) (⟨#[]⟩ : ByteArray)) else (spec_Spoken.j0 k a0_0 a0_1 a0_2 a0_3 a0_4 a0_5 a1_0 a1_1 a1_2 a1_3 a1_4 (IntKind.u64.wrap (a0_2 + 1)) 0 0 (⟨#[]⟩ : ByteArray) (⟨#[]⟩ : ByteArray))
theorem spec_Spoken.mono_l : ∀ k, (∀ y0 y1 y2 y3 y4 y5 y6 y7 y8 y9 y10 y11 y12 y13 y14 y15, LeO (spec_Spoken.j0 k y0 y1 y2 y3 y4 y5 y6 y7 y8 y9 y10 y11 y12 y13 y14 y15) (spec_Spoken.j0 (k + 1) y0 y1 y2 y3 y4 y5 y6 y7 y8 y9 y10 y11 y12 y13 y14 y15))
 | 0 => fun _ _ _ _ _ _ _ _ _ _ _ _ _ _ _ _ r h => by simp [spec_Spoken.j0] at h
 | k + 1 => by
  have ih0 := spec_Spoken.mono_l k
  ·
   intro y0 y1 y2 y3 y4 y5 y6 y7 y8 y9 y10 y11 y12 y13 y14 y15
   unfold spec_Spoken.j0
   repeat' first
   | (with_reducible exact ih0 _ _ _ _ _ _ _ _ _ _ _ _ _ _ _ _)
   | (with_reducible exact LeO.refl _)
   | (with_reducible exact LeO.none _)
   | (with_reducible refine LeO.ite ?_ ?_)
   | (with_reducible refine LeO.bind ?_ (fun _ => ?_))
   | exact ih0 _ _ _ _ _ _ _ _ _ _ _ _ _ _ _ _
   | exact LeO.none _
   | refine LeO.ite ?_ ?_
   | refine LeO.bind ?_ (fun _ => ?_)
theorem spec_Spoken.mono : ∀ a0 a1 a2 a3 a4 a5 a6 a7 a8 a9 a10 k, LeO (spec_Spoken.f k a0 a1 a2 a3 a4 a5 a6 a7 a8 a9 a10) (spec_Spoken.f (k + 1) a0 a1 a2 a3 a4 a5 a6 a7 a8 a9 a10) := by
 intro a0 a1 a2 a3 a4 a5 a6 a7 a8 a9 a10 k
 have ih0 := spec_Spoken.mono_l k
 unfold spec_Spoken.f
 repeat' first
   | (with_reducible exact ih0 _ _ _ _ _ _ _ _ _ _ _ _ _ _ _ _)
   | (with_reducible exact LeO.refl _)
   | (with_reducible exact LeO.none _)
   | (with_reducible refine LeO.ite ?_ ?_)
   | (with_reducible refine LeO.bind ?_ (fun _ => ?_))
   | exact ih0 _ _ _ _ _ _ _ _ _ _ _ _ _ _ _ _
   | exact LeO.none _
   | refine LeO.ite ?_ ?_
   | refine LeO.bind ?_ (fun _ => ?_)
set_option maxHeartbeats 8000000 in
set_option maxRecDepth 100000 in
theorem spec_Spoken.calls (k : Nat) (a0_0 : Int) (a0_1 : Int) (a0_2 : Int) (a0_3 : Int) (a0_4 : Int) (a0_5 : ByteArray) (a1_0 : Int) (a1_1 : Int) (a1_2 : Int) (a1_3 : ByteArray) (a1_4 : ByteArray) (r : Bool) (w : World) (h : spec_Spoken.f k a0_0 a0_1 a0_2 a0_3 a0_4 a0_5 a1_0 a1_1 a1_2 a1_3 a1_4 = some r) :
  Calls Tryd.prog 92 #[.agg #[.int .i64 a0_0, .int .i64 a0_1, .int .u64 a0_2, .int .u64 a0_3, .int .u64 a0_4, .string a0_5], .agg #[.int .u64 a1_0, .int .u64 a1_1, .int .u64 a1_2, .string a1_3, .string a1_4]] w fun e w' => e = .returned (.bool r) ∧ Below w.heap.size w w' := by
 have hu42 := Tryd.underlying42
 have hu29 := Tryd.underlying29
 have HB := Aside0.mk (Below.refl w.heap.size w)
 have H : (if a0_1 = 2 then (spec_Spoken.j0 k a0_0 a0_1 a0_2 a0_3 a0_4 a0_5 a1_0 a1_1 a1_2 a1_3 a1_4 a0_2 (IntKind.u64.wrap (a0_3 + 1)) 0 (⟨#[]⟩ : ByteArray) (⟨#[]⟩ : ByteArray)) else (spec_Spoken.j0 k a0_0 a0_1 a0_2 a0_3 a0_4 a0_5 a1_0 a1_1 a1_2 a1_3 a1_4 (IntKind.u64.wrap (a0_2 + 1)) 0 0 (⟨#[]⟩ : ByteArray) (⟨#[]⟩ : ByteArray))) = some r := h
 clear h
 have HC3 := Aside0.mk H
 clear H
 go_enter Tryd.func92, Tryd.ntmps92
 go_upto_if 12 with (first | ((with_reducible refine gate_dst (N := 2) rfl ?_); refine box_event ?hg (N := 2) ?hd (cs := #[.int .i64 a0_0, .int .i64 a0_1, .int .u64 a0_2, .int .u64 a0_3, .int .u64 a0_4, .string a0_5]) (t := 42) ?hr ?_; (case hd => rfl); (case hg => rfl); (case hr => first | (go_simp; done) | (go_simp; rfl)); intro gb157 hg w4 hbox hb; have n0_ := Aside0.mk (below_step (hbl HB.out) hb); have n1_ := Aside0.mk (hbox); have n2_ := Aside0.mk ((by rw [hg]; exact (below_size (hbl HB.out)) : w.heap.size ≤ gb157)); have n3_ := Aside0.mk ((by rw [hg]; exact (below_size (hbl HB.out)) : w.heap.size ≤ gb157)); clear HB; have HB := n0_; have BK157 := n1_; have GW157 := n2_; have GE157 := n3_; clear n0_ n1_ n2_ n3_; clear hb hbox hg) | ((with_reducible refine gate_dst (N := 3) rfl ?_); refine box_event ?hg (N := 3) ?hd (cs := #[.int .u64 a1_0, .int .u64 a1_1, .int .u64 a1_2, .string a1_3, .string a1_4]) (t := 29) ?hr ?_; (case hd => rfl); (case hg => rfl); (case hr => first | (go_simp; done) | (go_simp; rfl)); intro gb158 hg w5 hbox hb; have n0_ := Aside0.mk (blk_below (hbk BK157.out) hb); have n1_ := Aside0.mk (below_step (hbl HB.out) hb); have n2_ := Aside0.mk (hbox); have n3_ := Aside0.mk ((by rw [hg]; exact (below_size (hbl HB.out)) : w.heap.size ≤ gb158)); have n4_ := Aside0.mk ((by rw [hg]; exact (below_size (hbl HB.out)) : w.heap.size ≤ gb158)); have n5_ := Aside0.mk ((by rw [hg]; exact Nat.ne_of_lt (blk_lt (hbk BK157.out)) : gb157 ≠ gb158)); have n6_ := Aside0.mk ((by rw [hg]; exact Nat.ne_of_gt (blk_lt (hbk BK157.out)) : gb158 ≠ gb157)); clear BK157; clear HB; have BK157 := n0_; have HB := n1_; have BK158 := n2_; have GW158 := n3_; have GE158 := n4_; have NB157_158 := n5_; have NB158_157 := n6_; clear n0_ n1_ n2_ n3_ n4_ n5_ n6_; clear hb hbox hg; have hnb6 := NB157_158.out; have hnc6 := NB158_157.out; have hcz7_0 : w5.cell? ⟨gb157, 0, none⟩ = some (.int .i64 a0_0) := (blk_cell BK157.out 0).trans rfl; have hcz7_1 : w5.cell? ⟨gb157, 1, none⟩ = some (.int .i64 a0_1) := (blk_cell BK157.out 1).trans rfl; have hcz7_2 : w5.cell? ⟨gb157, 2, none⟩ = some (.int .u64 a0_2) := (blk_cell BK157.out 2).trans rfl; have hcz7_3 : w5.cell? ⟨gb157, 3, none⟩ = some (.int .u64 a0_3) := (blk_cell BK157.out 3).trans rfl; have hcz7_4 : w5.cell? ⟨gb157, 4, none⟩ = some (.int .u64 a0_4) := (blk_cell BK157.out 4).trans rfl; have hcz7_5 : w5.cell? ⟨gb157, 5, none⟩ = some (.string a0_5) := (blk_cell BK157.out 5).trans rfl; have hfz7_0 := blk_frozen BK157.out 0; have hfz7_1 := blk_frozen BK157.out 1; have hfz7_2 := blk_frozen BK157.out 2; have hfz7_3 := blk_frozen BK157.out 3; have hfz7_4 := blk_frozen BK157.out 4; have hfz7_5 := blk_frozen BK157.out 5) | ((with_reducible refine gate_dst (N := 5) rfl ?_); refine box_event ?hg (N := 5) ?hd (cs := #[.int .u64 0, .int .u64 0, .int .u64 0, .string (⟨#[]⟩ : ByteArray), .string (⟨#[]⟩ : ByteArray)]) (t := 29) ?hr ?_; (case hd => rfl); (case hg => rfl); (case hr => first | (go_simp; done) | (go_simp; rfl)); intro gb159 hg w8 hbox hb; have n0_ := Aside0.mk (blk_below (hbk BK157.out) hb); have n1_ := Aside0.mk (blk_below (hbk BK158.out) hb); have n2_ := Aside0.mk (below_step (hbl HB.out) hb); have n3_ := Aside0.mk (hbox); have n4_ := Aside0.mk ((by rw [hg]; exact (below_size (hbl HB.out)) : w.heap.size ≤ gb159)); have n5_ := Aside0.mk ((by rw [hg]; exact (below_size (hbl HB.out)) : w.heap.size ≤ gb159)); have n6_ := Aside0.mk ((by rw [hg]; exact Nat.ne_of_lt (blk_lt (hbk BK157.out)) : gb157 ≠ gb159)); have n7_ := Aside0.mk ((by rw [hg]; exact Nat.ne_of_gt (blk_lt (hbk BK157.out)) : gb159 ≠ gb157)); have n8_ := Aside0.mk ((by rw [hg]; exact Nat.ne_of_lt (blk_lt (hbk BK158.out)) : gb158 ≠ gb159)); have n9_ := Aside0.mk ((by rw [hg]; exact Nat.ne_of_gt (blk_lt (hbk BK158.out)) : gb159 ≠ gb158)); clear BK157; clear BK158; clear HB; have BK157 := n0_; have BK158 := n1_; have HB := n2_; have BK159 := n3_; have GW159 := n4_; have GE159 := n5_; have NB157_159 := n6_; have NB159_157 := n7_; have NB158_159 := n8_; have NB159_158 := n9_; clear n0_ n1_ n2_ n3_ n4_ n5_ n6_ n7_ n8_ n9_; clear hb hbox hg; have hnb9 := NB159_157.out; have hnc9 := NB157_159.out; have hnb10 := NB159_158.out; have hnc10 := NB158_159.out; have hcz11_0 : w8.cell? ⟨gb159, 0, none⟩ = some (.int .u64 0) := (blk_cell BK159.out 0).trans rfl; have hcz11_1 : w8.cell? ⟨gb159, 1, none⟩ = some (.int .u64 0) := (blk_cell BK159.out 1).trans rfl; have hcz11_2 : w8.cell? ⟨gb159, 2, none⟩ = some (.int .u64 0) := (blk_cell BK159.out 2).trans rfl; have hcz11_3 : w8.cell? ⟨gb159, 3, none⟩ = some (.string (⟨#[]⟩ : ByteArray)) := (blk_cell BK159.out 3).trans rfl; have hcz11_4 : w8.cell? ⟨gb159, 4, none⟩ = some (.string (⟨#[]⟩ : ByteArray)) := (blk_cell BK159.out 4).trans rfl; have hfz11_0 := blk_frozen BK159.out 0; have hfz11_1 := blk_frozen BK159.out 1; have hfz11_2 := blk_frozen BK159.out 2; have hfz11_3 := blk_frozen BK159.out 3; have hfz11_4 := blk_frozen BK159.out 4; have hcz12_0 : w8.cell? ⟨gb157, 0, none⟩ = some (.int .i64 a0_0) := (blk_cell BK157.out 0).trans rfl; have hcz12_1 : w8.cell? ⟨gb157, 1, none⟩ = some (.int .i64 a0_1) := (blk_cell BK157.out 1).trans rfl; have hcz12_2 : w8.cell? ⟨gb157, 2, none⟩ = some (.int .u64 a0_2) := (blk_cell BK157.out 2).trans rfl; have hcz12_3 : w8.cell? ⟨gb157, 3, none⟩ = some (.int .u64 a0_3) := (blk_cell BK157.out 3).trans rfl; have hcz12_4 : w8.cell? ⟨gb157, 4, none⟩ = some (.int .u64 a0_4) := (blk_cell BK157.out 4).trans rfl; have hcz12_5 : w8.cell? ⟨gb157, 5, none⟩ = some (.string a0_5) := (blk_cell BK157.out 5).trans rfl; have hfz12_0 := blk_frozen BK157.out 0; have hfz12_1 := blk_frozen BK157.out 1; have hfz12_2 := blk_frozen BK157.out 2; have hfz12_3 := blk_frozen BK157.out 3; have hfz12_4 := blk_frozen BK157.out 4; have hfz12_5 := blk_frozen BK157.out 5))
 (try simp only [Act.put, putA, putZ, putS])
 go_cut [] (fun wc => ∃ (kq : Nat) (x160000_2 : Int) (x160001_2 : Int) (x160002_2 : Int) (x160003_2 : ByteArray) (x160004_2 : ByteArray), Aside0 (spec_Spoken.j0 kq a0_0 a0_1 a0_2 a0_3 a0_4 a0_5 a1_0 a1_1 a1_2 a1_3 a1_4 x160000_2 x160001_2 x160002_2 x160003_2 x160004_2 = some r) ∧ Aside0 (kq ≤ k) ∧ Aside0 (wc.heap[gb157]? = some (.cells #[.int .i64 a0_0, .int .i64 a0_1, .int .u64 a0_2, .int .u64 a0_3, .int .u64 a0_4, .string a0_5] 42 (0, 0))) ∧ Aside0 (wc.heap[gb158]? = some (.cells #[.int .u64 a1_0, .int .u64 a1_1, .int .u64 a1_2, .string a1_3, .string a1_4] 29 (0, 0))) ∧ Aside0 (wc.heap[gb159]? = some (.cells #[.int .u64 x160000_2, .int .u64 x160001_2, .int .u64 x160002_2, .string x160003_2, .string x160004_2] 29 (0, 0))) ∧ Aside0 (Below w.heap.size w wc))
 case first =>
  have H := HC3.out
  clear HC3
  by_cases c13 : a0_1 = 2
  ·
   rw [if_pos c13] at H
   have c13b0 : (a0_1 == 2) = true := beq_iff_eq.mpr c13
   have c13b1 : (a0_1 != 2) = false := bne_eq_false_iff_eq.mpr c13
   clear c13
   (first | rw [c13b0] | (simp only [i64_w, i32_w]; rw [c13b0]) | skip)
   have H' := Aside0.mk H
   clear H
   have hnb14 := NB157_158.out
   have hnc14 := NB158_157.out
   have hnb15 := NB157_159.out
   have hnc15 := NB159_157.out
   have hcz16_0 : w8.cell? ⟨gb157, 0, none⟩ = some (.int .i64 a0_0) := (blk_cell BK157.out 0).trans rfl
   have hcz16_1 : w8.cell? ⟨gb157, 1, none⟩ = some (.int .i64 a0_1) := (blk_cell BK157.out 1).trans rfl
   have hcz16_2 : w8.cell? ⟨gb157, 2, none⟩ = some (.int .u64 a0_2) := (blk_cell BK157.out 2).trans rfl
   have hcz16_3 : w8.cell? ⟨gb157, 3, none⟩ = some (.int .u64 a0_3) := (blk_cell BK157.out 3).trans rfl
   have hcz16_4 : w8.cell? ⟨gb157, 4, none⟩ = some (.int .u64 a0_4) := (blk_cell BK157.out 4).trans rfl
   have hcz16_5 : w8.cell? ⟨gb157, 5, none⟩ = some (.string a0_5) := (blk_cell BK157.out 5).trans rfl
   have hfz16_0 := blk_frozen BK157.out 0
   have hfz16_1 := blk_frozen BK157.out 1
   have hfz16_2 := blk_frozen BK157.out 2
   have hfz16_3 := blk_frozen BK157.out 3
   have hfz16_4 := blk_frozen BK157.out 4
   have hfz16_5 := blk_frozen BK157.out 5
   have hnb17 := NB159_158.out
   have hnc17 := NB158_159.out
   have hcz18_0 : w8.cell? ⟨gb159, 0, none⟩ = some (.int .u64 0) := (blk_cell BK159.out 0).trans rfl
   have hcz18_1 : w8.cell? ⟨gb159, 1, none⟩ = some (.int .u64 0) := (blk_cell BK159.out 1).trans rfl
   have hcz18_2 : w8.cell? ⟨gb159, 2, none⟩ = some (.int .u64 0) := (blk_cell BK159.out 2).trans rfl
   have hcz18_3 : w8.cell? ⟨gb159, 3, none⟩ = some (.string (⟨#[]⟩ : ByteArray)) := (blk_cell BK159.out 3).trans rfl
   have hcz18_4 : w8.cell? ⟨gb159, 4, none⟩ = some (.string (⟨#[]⟩ : ByteArray)) := (blk_cell BK159.out 4).trans rfl
   have hfz18_0 := blk_frozen BK159.out 0
   have hfz18_1 := blk_frozen BK159.out 1
   have hfz18_2 := blk_frozen BK159.out 2
   have hfz18_3 := blk_frozen BK159.out 3
   have hfz18_4 := blk_frozen BK159.out 4
   go_wp2
   go_meet
   case rel => exact ⟨_, (a0_2), (IntKind.u64.wrap (a0_3 + 1)), (0), ((⟨#[]⟩ : ByteArray)), ((⟨#[]⟩ : ByteArray)), H', ⟨by first | omega | exact Nat.le_refl _⟩, ⟨by (with_reducible repeat (first | refine blk_drewN ?_ _ | refine blk_drew ?_ | refine blk_alloc ?_ _)); refine blk_far ?_ NB157_159.out _; (with_reducible repeat (first | refine blk_drewN ?_ _ | refine blk_drew ?_ | refine blk_alloc ?_ _)); refine blk_far ?_ NB157_159.out _; (with_reducible repeat (first | refine blk_drewN ?_ _ | refine blk_drew ?_ | refine blk_alloc ?_ _)); refine blk_far ?_ NB157_159.out _; (with_reducible repeat (first | refine blk_drewN ?_ _ | refine blk_drew ?_ | refine blk_alloc ?_ _)); refine blk_far ?_ NB157_159.out _; (with_reducible repeat (first | refine blk_drewN ?_ _ | refine blk_drew ?_ | refine blk_alloc ?_ _)); refine blk_far ?_ NB157_159.out _; (with_reducible repeat (first | refine blk_drewN ?_ _ | refine blk_drew ?_ | refine blk_alloc ?_ _)); refine blk_far ?_ NB157_159.out _; (with_reducible repeat (first | refine blk_drewN ?_ _ | refine blk_drew ?_ | refine blk_alloc ?_ _)); refine blk_far ?_ NB157_159.out _; (with_reducible repeat (first | refine blk_drewN ?_ _ | refine blk_drew ?_ | refine blk_alloc ?_ _)); refine blk_far ?_ NB157_159.out _; (with_reducible repeat (first | refine blk_drewN ?_ _ | refine blk_drew ?_ | refine blk_alloc ?_ _)); refine blk_far ?_ NB157_159.out _; (with_reducible repeat (first | refine blk_drewN ?_ _ | refine blk_drew ?_ | refine blk_alloc ?_ _)); refine blk_far ?_ NB157_159.out _; (with_reducible repeat (first | refine blk_drewN ?_ _ | refine blk_drew ?_ | refine blk_alloc ?_ _)); exact BK157.out⟩, ⟨by (with_reducible repeat (first | refine blk_drewN ?_ _ | refine blk_drew ?_ | refine blk_alloc ?_ _)); refine blk_far ?_ NB158_159.out _; (with_reducible repeat (first | refine blk_drewN ?_ _ | refine blk_drew ?_ | refine blk_alloc ?_ _)); refine blk_far ?_ NB158_159.out _; (with_reducible repeat (first | refine blk_drewN ?_ _ | refine blk_drew ?_ | refine blk_alloc ?_ _)); refine blk_far ?_ NB158_159.out _; (with_reducible repeat (first | refine blk_drewN ?_ _ | refine blk_drew ?_ | refine blk_alloc ?_ _)); refine blk_far ?_ NB158_159.out _; (with_reducible repeat (first | refine blk_drewN ?_ _ | refine blk_drew ?_ | refine blk_alloc ?_ _)); refine blk_far ?_ NB158_159.out _; (with_reducible repeat (first | refine blk_drewN ?_ _ | refine blk_drew ?_ | refine blk_alloc ?_ _)); refine blk_far ?_ NB158_159.out _; (with_reducible repeat (first | refine blk_drewN ?_ _ | refine blk_drew ?_ | refine blk_alloc ?_ _)); refine blk_far ?_ NB158_159.out _; (with_reducible repeat (first | refine blk_drewN ?_ _ | refine blk_drew ?_ | refine blk_alloc ?_ _)); refine blk_far ?_ NB158_159.out _; (with_reducible repeat (first | refine blk_drewN ?_ _ | refine blk_drew ?_ | refine blk_alloc ?_ _)); refine blk_far ?_ NB158_159.out _; (with_reducible repeat (first | refine blk_drewN ?_ _ | refine blk_drew ?_ | refine blk_alloc ?_ _)); refine blk_far ?_ NB158_159.out _; (with_reducible repeat (first | refine blk_drewN ?_ _ | refine blk_drew ?_ | refine blk_alloc ?_ _)); exact BK158.out⟩, ⟨by (with_reducible repeat (first | refine blk_drewN ?_ _ | refine blk_drew ?_ | refine blk_alloc ?_ _)); refine blk_put (cs := #[.int .u64 a0_2, .int .u64 (IntKind.u64.wrap (a0_3 + 1)), .int .u64 0, .string (⟨#[]⟩ : ByteArray), .string (⟨#[]⟩ : ByteArray)]) ?_ 4 _ rfl; (with_reducible repeat (first | refine blk_drewN ?_ _ | refine blk_drew ?_ | refine blk_alloc ?_ _)); refine blk_put (cs := #[.int .u64 a0_2, .int .u64 (IntKind.u64.wrap (a0_3 + 1)), .int .u64 0, .string (⟨#[]⟩ : ByteArray), .string (⟨#[]⟩ : ByteArray)]) ?_ 3 _ rfl; (with_reducible repeat (first | refine blk_drewN ?_ _ | refine blk_drew ?_ | refine blk_alloc ?_ _)); refine blk_put (cs := #[.int .u64 a0_2, .int .u64 (IntKind.u64.wrap (a0_3 + 1)), .int .u64 0, .string (⟨#[]⟩ : ByteArray), .string (⟨#[]⟩ : ByteArray)]) ?_ 2 _ rfl; (with_reducible repeat (first | refine blk_drewN ?_ _ | refine blk_drew ?_ | refine blk_alloc ?_ _)); refine blk_put (cs := #[.int .u64 a0_2, .int .u64 0, .int .u64 0, .string (⟨#[]⟩ : ByteArray), .string (⟨#[]⟩ : ByteArray)]) ?_ 1 _ rfl; (with_reducible repeat (first | refine blk_drewN ?_ _ | refine blk_drew ?_ | refine blk_alloc ?_ _)); refine blk_put (cs := #[.int .u64 (IntKind.u64.wrap (a0_2 + 1)), .int .u64 0, .int .u64 0, .string (⟨#[]⟩ : ByteArray), .string (⟨#[]⟩ : ByteArray)]) ?_ 0 _ rfl; (with_reducible repeat (first | refine blk_drewN ?_ _ | refine blk_drew ?_ | refine blk_alloc ?_ _)); refine blk_put (cs := #[.int .u64 (IntKind.u64.wrap (a0_2 + 1)), .int .u64 0, .int .u64 0, .string (⟨#[]⟩ : ByteArray), .string (⟨#[]⟩ : ByteArray)]) ?_ 4 _ rfl; (with_reducible repeat (first | refine blk_drewN ?_ _ | refine blk_drew ?_ | refine blk_alloc ?_ _)); refine blk_put (cs := #[.int .u64 (IntKind.u64.wrap (a0_2 + 1)), .int .u64 0, .int .u64 0, .string (⟨#[]⟩ : ByteArray), .string (⟨#[]⟩ : ByteArray)]) ?_ 3 _ rfl; (with_reducible repeat (first | refine blk_drewN ?_ _ | refine blk_drew ?_ | refine blk_alloc ?_ _)); refine blk_put (cs := #[.int .u64 (IntKind.u64.wrap (a0_2 + 1)), .int .u64 0, .int .u64 0, .string (⟨#[]⟩ : ByteArray), .string (⟨#[]⟩ : ByteArray)]) ?_ 2 _ rfl; (with_reducible repeat (first | refine blk_drewN ?_ _ | refine blk_drew ?_ | refine blk_alloc ?_ _)); refine blk_put (cs := #[.int .u64 (IntKind.u64.wrap (a0_2 + 1)), .int .u64 0, .int .u64 0, .string (⟨#[]⟩ : ByteArray), .string (⟨#[]⟩ : ByteArray)]) ?_ 1 _ rfl; (with_reducible repeat (first | refine blk_drewN ?_ _ | refine blk_drew ?_ | refine blk_alloc ?_ _)); refine blk_put (cs := #[.int .u64 0, .int .u64 0, .int .u64 0, .string (⟨#[]⟩ : ByteArray), .string (⟨#[]⟩ : ByteArray)]) ?_ 0 _ rfl; (with_reducible repeat (first | refine blk_drewN ?_ _ | refine blk_drew ?_ | refine blk_alloc ?_ _)); exact BK159.out⟩, ⟨hbl HB.out⟩⟩
  ·
   rw [if_neg c13] at H
   have c13b0 : (a0_1 == 2) = false := beq_eq_false_iff_ne.mpr c13
   have c13b1 : (a0_1 != 2) = true := bne_iff_ne.mpr c13
   (first | rw [c13b0] | (simp only [i64_w, i32_w]; rw [c13b0]) | skip)
   have H' := Aside0.mk H
   clear H
   go_wp2
   go_meet
   case rel => exact ⟨_, (IntKind.u64.wrap (a0_2 + 1)), (0), (0), ((⟨#[]⟩ : ByteArray)), ((⟨#[]⟩ : ByteArray)), H', ⟨by first | omega | exact Nat.le_refl _⟩, ⟨by (with_reducible repeat (first | refine blk_drewN ?_ _ | refine blk_drew ?_ | refine blk_alloc ?_ _)); refine blk_far ?_ NB157_159.out _; (with_reducible repeat (first | refine blk_drewN ?_ _ | refine blk_drew ?_ | refine blk_alloc ?_ _)); refine blk_far ?_ NB157_159.out _; (with_reducible repeat (first | refine blk_drewN ?_ _ | refine blk_drew ?_ | refine blk_alloc ?_ _)); refine blk_far ?_ NB157_159.out _; (with_reducible repeat (first | refine blk_drewN ?_ _ | refine blk_drew ?_ | refine blk_alloc ?_ _)); refine blk_far ?_ NB157_159.out _; (with_reducible repeat (first | refine blk_drewN ?_ _ | refine blk_drew ?_ | refine blk_alloc ?_ _)); refine blk_far ?_ NB157_159.out _; (with_reducible repeat (first | refine blk_drewN ?_ _ | refine blk_drew ?_ | refine blk_alloc ?_ _)); exact BK157.out⟩, ⟨by (with_reducible repeat (first | refine blk_drewN ?_ _ | refine blk_drew ?_ | refine blk_alloc ?_ _)); refine blk_far ?_ NB158_159.out _; (with_reducible repeat (first | refine blk_drewN ?_ _ | refine blk_drew ?_ | refine blk_alloc ?_ _)); refine blk_far ?_ NB158_159.out _; (with_reducible repeat (first | refine blk_drewN ?_ _ | refine blk_drew ?_ | refine blk_alloc ?_ _)); refine blk_far ?_ NB158_159.out _; (with_reducible repeat (first | refine blk_drewN ?_ _ | refine blk_drew ?_ | refine blk_alloc ?_ _)); refine blk_far ?_ NB158_159.out _; (with_reducible repeat (first | refine blk_drewN ?_ _ | refine blk_drew ?_ | refine blk_alloc ?_ _)); refine blk_far ?_ NB158_159.out _; (with_reducible repeat (first | refine blk_drewN ?_ _ | refine blk_drew ?_ | refine blk_alloc ?_ _)); exact BK158.out⟩, ⟨by (with_reducible repeat (first | refine blk_drewN ?_ _ | refine blk_drew ?_ | refine blk_alloc ?_ _)); refine blk_put (cs := #[.int .u64 (IntKind.u64.wrap (a0_2 + 1)), .int .u64 0, .int .u64 0, .string (⟨#[]⟩ : ByteArray), .string (⟨#[]⟩ : ByteArray)]) ?_ 4 _ rfl; (with_reducible repeat (first | refine blk_drewN ?_ _ | refine blk_drew ?_ | refine blk_alloc ?_ _)); refine blk_put (cs := #[.int .u64 (IntKind.u64.wrap (a0_2 + 1)), .int .u64 0, .int .u64 0, .string (⟨#[]⟩ : ByteArray), .string (⟨#[]⟩ : ByteArray)]) ?_ 3 _ rfl; (with_reducible repeat (first | refine blk_drewN ?_ _ | refine blk_drew ?_ | refine blk_alloc ?_ _)); refine blk_put (cs := #[.int .u64 (IntKind.u64.wrap (a0_2 + 1)), .int .u64 0, .int .u64 0, .string (⟨#[]⟩ : ByteArray), .string (⟨#[]⟩ : ByteArray)]) ?_ 2 _ rfl; (with_reducible repeat (first | refine blk_drewN ?_ _ | refine blk_drew ?_ | refine blk_alloc ?_ _)); refine blk_put (cs := #[.int .u64 (IntKind.u64.wrap (a0_2 + 1)), .int .u64 0, .int .u64 0, .string (⟨#[]⟩ : ByteArray), .string (⟨#[]⟩ : ByteArray)]) ?_ 1 _ rfl; (with_reducible repeat (first | refine blk_drewN ?_ _ | refine blk_drew ?_ | refine blk_alloc ?_ _)); refine blk_put (cs := #[.int .u64 0, .int .u64 0, .int .u64 0, .string (⟨#[]⟩ : ByteArray), .string (⟨#[]⟩ : ByteArray)]) ?_ 0 _ rfl; (with_reducible repeat (first | refine blk_drewN ?_ _ | refine blk_drew ?_ | refine blk_alloc ?_ _)); exact BK159.out⟩, ⟨hbl HB.out⟩⟩
 case rest =>
  clear HC3
  try clear c1
  try clear p2
  try clear c6
  try clear c9
  try clear c10
  try clear c13
  try clear c13b0
  try clear c13b1
  try clear c14
  try clear c15
  try clear c17
  try clear hcz11_0
  try clear hcz11_1
  try clear hcz11_2
  try clear hcz11_3
  try clear hcz11_4
  try clear hcz12_0
  try clear hcz12_1
  try clear hcz12_2
  try clear hcz12_3
  try clear hcz12_4
  try clear hcz12_5
  try clear hcz16_0
  try clear hcz16_1
  try clear hcz16_2
  try clear hcz16_3
  try clear hcz16_4
  try clear hcz16_5
  try clear hcz18_0
  try clear hcz18_1
  try clear hcz18_2
  try clear hcz18_3
  try clear hcz18_4
  try clear hcz7_0
  try clear hcz7_1
  try clear hcz7_2
  try clear hcz7_3
  try clear hcz7_4
  try clear hcz7_5
  try clear hfz11_0
  try clear hfz11_1
  try clear hfz11_2
  try clear hfz11_3
  try clear hfz11_4
  try clear hfz12_0
  try clear hfz12_1
  try clear hfz12_2
  try clear hfz12_3
  try clear hfz12_4
  try clear hfz12_5
  try clear hfz16_0
  try clear hfz16_1
  try clear hfz16_2
  try clear hfz16_3
  try clear hfz16_4
  try clear hfz16_5
  try clear hfz18_0
  try clear hfz18_1
  try clear hfz18_2
  try clear hfz18_3
  try clear hfz18_4
  try clear hfz7_0
  try clear hfz7_1
  try clear hfz7_2
  try clear hfz7_3
  try clear hfz7_4
  try clear hfz7_5
  obtain ⟨kq, x160000_2, x160001_2, x160002_2, x160003_2, x160004_2, HA, HJ2, BK157, BK158, BK159, HB⟩ := hcut
  cases kq with
  | zero => exact absurd HA.out (by simp [spec_Spoken.j0])
  | succ kj2 =>
   have H := HA.out
   clear HA
   simp only [spec_Spoken.j0] at H
   by_cases c19 : a0_1 = 3
   ·
    rw [if_pos c19] at H
    have c19b0 : (a0_1 == 3) = true := beq_iff_eq.mpr c19
    have c19b1 : (a0_1 != 3) = false := bne_eq_false_iff_eq.mpr c19
    clear c19
    obtain rfl := Option.some.inj H
    have hnb20 := NB157_158.out
    have hnc20 := NB158_157.out
    have hnb21 := NB157_159.out
    have hnc21 := NB159_157.out
    have hcz22_0 : wc.cell? ⟨gb157, 0, none⟩ = some (.int .i64 a0_0) := (blk_cell BK157.out 0).trans rfl
    have hcz22_1 : wc.cell? ⟨gb157, 1, none⟩ = some (.int .i64 a0_1) := (blk_cell BK157.out 1).trans rfl
    have hcz22_2 : wc.cell? ⟨gb157, 2, none⟩ = some (.int .u64 a0_2) := (blk_cell BK157.out 2).trans rfl
    have hcz22_3 : wc.cell? ⟨gb157, 3, none⟩ = some (.int .u64 a0_3) := (blk_cell BK157.out 3).trans rfl
    have hcz22_4 : wc.cell? ⟨gb157, 4, none⟩ = some (.int .u64 a0_4) := (blk_cell BK157.out 4).trans rfl
    have hcz22_5 : wc.cell? ⟨gb157, 5, none⟩ = some (.string a0_5) := (blk_cell BK157.out 5).trans rfl
    have hfz22_0 := blk_frozen BK157.out 0
    have hfz22_1 := blk_frozen BK157.out 1
    have hfz22_2 := blk_frozen BK157.out 2
    have hfz22_3 := blk_frozen BK157.out 3
    have hfz22_4 := blk_frozen BK157.out 4
    have hfz22_5 := blk_frozen BK157.out 5
    go_wp2
    go_ret
    exact ⟨hrf, hbl HB.out⟩
   ·
    rw [if_neg c19] at H
    have c19b0 : (a0_1 == 3) = false := beq_eq_false_iff_ne.mpr c19
    have c19b1 : (a0_1 != 3) = true := bne_iff_ne.mpr c19
    by_cases c23 : a0_0 = 5
    ·
     rw [if_pos c23] at H
     have c23b0 : (a0_0 == 5) = true := beq_iff_eq.mpr c23
     have c23b1 : (a0_0 != 5) = false := bne_eq_false_iff_eq.mpr c23
     clear c23
     replace H := Option.bind_eq_some_iff.mp H
     obtain ⟨t160, A240, H⟩ := H
     replace H : (some (t160 != 0)) = some r := H
     have A24 := Aside0.mk A240
     clear A240
     obtain rfl := Option.some.inj H
     have hnb25 := NB157_158.out
     have hnc25 := NB158_157.out
     have hnb26 := NB157_159.out
     have hnc26 := NB159_157.out
     have hcz27_0 : wc.cell? ⟨gb157, 0, none⟩ = some (.int .i64 a0_0) := (blk_cell BK157.out 0).trans rfl
     have hcz27_1 : wc.cell? ⟨gb157, 1, none⟩ = some (.int .i64 a0_1) := (blk_cell BK157.out 1).trans rfl
     have hcz27_2 : wc.cell? ⟨gb157, 2, none⟩ = some (.int .u64 a0_2) := (blk_cell BK157.out 2).trans rfl
     have hcz27_3 : wc.cell? ⟨gb157, 3, none⟩ = some (.int .u64 a0_3) := (blk_cell BK157.out 3).trans rfl
     have hcz27_4 : wc.cell? ⟨gb157, 4, none⟩ = some (.int .u64 a0_4) := (blk_cell BK157.out 4).trans rfl
     have hcz27_5 : wc.cell? ⟨gb157, 5, none⟩ = some (.string a0_5) := (blk_cell BK157.out 5).trans rfl
     have hfz27_0 := blk_frozen BK157.out 0
     have hfz27_1 := blk_frozen BK157.out 1
     have hfz27_2 := blk_frozen BK157.out 2
     have hfz27_3 := blk_frozen BK157.out 3
     have hfz27_4 := blk_frozen BK157.out 4
     have hfz27_5 := blk_frozen BK157.out 5
     have hnb28 := NB158_159.out
     have hnc28 := NB159_158.out
     have hcz29_0 : wc.cell? ⟨gb158, 0, none⟩ = some (.int .u64 a1_0) := (blk_cell BK158.out 0).trans rfl
     have hcz29_1 : wc.cell? ⟨gb158, 1, none⟩ = some (.int .u64 a1_1) := (blk_cell BK158.out 1).trans rfl
     have hcz29_2 : wc.cell? ⟨gb158, 2, none⟩ = some (.int .u64 a1_2) := (blk_cell BK158.out 2).trans rfl
     have hcz29_3 : wc.cell? ⟨gb158, 3, none⟩ = some (.string a1_3) := (blk_cell BK158.out 3).trans rfl
     have hcz29_4 : wc.cell? ⟨gb158, 4, none⟩ = some (.string a1_4) := (blk_cell BK158.out 4).trans rfl
     have hfz29_0 := blk_frozen BK158.out 0
     have hfz29_1 := blk_frozen BK158.out 1
     have hfz29_2 := blk_frozen BK158.out 2
     have hfz29_3 := blk_frozen BK158.out 3
     have hfz29_4 := blk_frozen BK158.out 4
     have hcz30_0 : wc.cell? ⟨gb159, 0, none⟩ = some (.int .u64 x160000_2) := (blk_cell BK159.out 0).trans rfl
     have hcz30_1 : wc.cell? ⟨gb159, 1, none⟩ = some (.int .u64 x160001_2) := (blk_cell BK159.out 1).trans rfl
     have hcz30_2 : wc.cell? ⟨gb159, 2, none⟩ = some (.int .u64 x160002_2) := (blk_cell BK159.out 2).trans rfl
     have hcz30_3 : wc.cell? ⟨gb159, 3, none⟩ = some (.string x160003_2) := (blk_cell BK159.out 3).trans rfl
     have hcz30_4 : wc.cell? ⟨gb159, 4, none⟩ = some (.string x160004_2) := (blk_cell BK159.out 4).trans rfl
     have hfz30_0 := blk_frozen BK159.out 0
     have hfz30_1 := blk_frozen BK159.out 1
     have hfz30_2 := blk_frozen BK159.out 2
     have hfz30_3 := blk_frozen BK159.out 3
     have hfz30_4 := blk_frozen BK159.out 4
     go_wp2_with (first | ((with_reducible refine gate_callee (f := 111) rfl ?_); refine goesL_ (some 29) rfl rfl Tryd.func111 (by kernel_rfl) rfl #[.agg #[.int .u64 a1_0, .int .u64 a1_1, .int .u64 a1_2, .string a1_3, .string a1_4], .agg #[.int .u64 x160000_2, .int .u64 x160001_2, .int .u64 x160002_2, .string x160003_2, .string x160004_2], .int .i64 3] rfl (by (try simp only [List.map_toArray, List.map_cons, List.map_nil]); first | done | rfl | (simp only [List.length_drop, List.length_take]; rfl)) ?_; (with_reducible refine (Hand.CompareNumbers.calls a1_0 a1_1 a1_2 a1_3 a1_4 x160000_2 x160001_2 x160002_2 x160003_2 x160004_2 3 t160 _ A24.out).mono ?_); rintro e w31 ⟨rfl, hb⟩; refine ⟨_, rfl, ?_⟩; have n0_ := Aside0.mk (blk_below (hbk BK157.out) hb); have n1_ := Aside0.mk (blk_below (hbk BK158.out) hb); have n2_ := Aside0.mk (blk_below (hbk BK159.out) hb); have n3_ := Aside0.mk (below_step (hbl HB.out) hb); clear BK157; clear BK158; clear BK159; clear HB; have BK157 := n0_; have BK158 := n1_; have BK159 := n2_; have HB := n3_; clear n0_ n1_ n2_ n3_; (try clear hb); (try clear hb2); (try clear hk); (try clear hi)))
     go_ret
     exact ⟨hrf, hbl HB.out⟩
    ·
     rw [if_neg c23] at H
     have c23b0 : (a0_0 == 5) = false := beq_eq_false_iff_ne.mpr c23
     have c23b1 : (a0_0 != 5) = true := bne_iff_ne.mpr c23
     by_cases c32 : a0_0 = 1
     ·
      rw [if_pos c32] at H
      have c32b0 : (a0_0 == 1) = true := beq_iff_eq.mpr c32
      have c32b1 : (a0_0 != 1) = false := bne_eq_false_iff_eq.mpr c32
      clear c32
      obtain rfl := Option.some.inj H
      have hnb33 := NB157_158.out
      have hnc33 := NB158_157.out
      have hnb34 := NB157_159.out
      have hnc34 := NB159_157.out
      have hcz35_0 : wc.cell? ⟨gb157, 0, none⟩ = some (.int .i64 a0_0) := (blk_cell BK157.out 0).trans rfl
      have hcz35_1 : wc.cell? ⟨gb157, 1, none⟩ = some (.int .i64 a0_1) := (blk_cell BK157.out 1).trans rfl
      have hcz35_2 : wc.cell? ⟨gb157, 2, none⟩ = some (.int .u64 a0_2) := (blk_cell BK157.out 2).trans rfl
      have hcz35_3 : wc.cell? ⟨gb157, 3, none⟩ = some (.int .u64 a0_3) := (blk_cell BK157.out 3).trans rfl
      have hcz35_4 : wc.cell? ⟨gb157, 4, none⟩ = some (.int .u64 a0_4) := (blk_cell BK157.out 4).trans rfl
      have hcz35_5 : wc.cell? ⟨gb157, 5, none⟩ = some (.string a0_5) := (blk_cell BK157.out 5).trans rfl
      have hfz35_0 := blk_frozen BK157.out 0
      have hfz35_1 := blk_frozen BK157.out 1
      have hfz35_2 := blk_frozen BK157.out 2
      have hfz35_3 := blk_frozen BK157.out 3
      have hfz35_4 := blk_frozen BK157.out 4
      have hfz35_5 := blk_frozen BK157.out 5
      have hnb36 := NB158_159.out
      have hnc36 := NB159_158.out
      have hcz37_0 : wc.cell? ⟨gb158, 0, none⟩ = some (.int .u64 a1_0) := (blk_cell BK158.out 0).trans rfl
      have hcz37_1 : wc.cell? ⟨gb158, 1, none⟩ = some (.int .u64 a1_1) := (blk_cell BK158.out 1).trans rfl
      have hcz37_2 : wc.cell? ⟨gb158, 2, none⟩ = some (.int .u64 a1_2) := (blk_cell BK158.out 2).trans rfl
      have hcz37_3 : wc.cell? ⟨gb158, 3, none⟩ = some (.string a1_3) := (blk_cell BK158.out 3).trans rfl
      have hcz37_4 : wc.cell? ⟨gb158, 4, none⟩ = some (.string a1_4) := (blk_cell BK158.out 4).trans rfl
      have hfz37_0 := blk_frozen BK158.out 0
      have hfz37_1 := blk_frozen BK158.out 1
      have hfz37_2 := blk_frozen BK158.out 2
      have hfz37_3 := blk_frozen BK158.out 3
      have hfz37_4 := blk_frozen BK158.out 4
      go_wp2
      go_ret
      exact ⟨hrf, hbl HB.out⟩
     ·
      rw [if_neg c32] at H
      have c32b0 : (a0_0 == 1) = false := beq_eq_false_iff_ne.mpr c32
      have c32b1 : (a0_0 != 1) = true := bne_iff_ne.mpr c32
      obtain rfl := Option.some.inj H
      have hnb38 := NB157_158.out
      have hnc38 := NB158_157.out
      have hnb39 := NB157_159.out
      have hnc39 := NB159_157.out
      have hcz40_0 : wc.cell? ⟨gb157, 0, none⟩ = some (.int .i64 a0_0) := (blk_cell BK157.out 0).trans rfl
      have hcz40_1 : wc.cell? ⟨gb157, 1, none⟩ = some (.int .i64 a0_1) := (blk_cell BK157.out 1).trans rfl
      have hcz40_2 : wc.cell? ⟨gb157, 2, none⟩ = some (.int .u64 a0_2) := (blk_cell BK157.out 2).trans rfl
      have hcz40_3 : wc.cell? ⟨gb157, 3, none⟩ = some (.int .u64 a0_3) := (blk_cell BK157.out 3).trans rfl
      have hcz40_4 : wc.cell? ⟨gb157, 4, none⟩ = some (.int .u64 a0_4) := (blk_cell BK157.out 4).trans rfl
      have hcz40_5 : wc.cell? ⟨gb157, 5, none⟩ = some (.string a0_5) := (blk_cell BK157.out 5).trans rfl
      have hfz40_0 := blk_frozen BK157.out 0
      have hfz40_1 := blk_frozen BK157.out 1
      have hfz40_2 := blk_frozen BK157.out 2
      have hfz40_3 := blk_frozen BK157.out 3
      have hfz40_4 := blk_frozen BK157.out 4
      have hfz40_5 := blk_frozen BK157.out 5
      go_wp2
      go_ret
      exact ⟨hrf, hbl HB.out⟩

end Go.Proofs.YtalpehfjjidfhaaDoor.MP
