-- PRINTED BY print.sh 35421559b90ae4d0a3588c463048766b98c2df88dd9212a6774a882060cdf62d: not written by this session
import Derived.Test.YtcmifkepleedmaaPFnRefTextx0
namespace Go.Proofs.Ytcmifkepleedmaa.PFnRefText
open Go.RowKit Go.Proofs.YtcmifkepleedmaaW.PrintWords Go.Proofs.YtcmifkepleedmaaW.PrintLast Go.Proofs.YtcmifkepleedmaaW.PrintMore
attribute [local go_sem] max2_int min2_int max_two min_two max_three min_three max_four min_four   -- for this text's walks alone
set_option linter.unusedVariables false
set_option linter.unusedSimpArgs false

/-! ### laws_zzFits7: function 20 -/
def laws_zzFits7.f (a0_0 : ByteArray) (a0_1 : ByteArray) (a0_2 : ByteArray) (a0_3 : ByteArray) : Option (Bool) := if (a0_0.size : Int) > 2147483647 then (some false) else (if (a0_1.size : Int) > 2147483647 then (some false) else (if (a0_2.size : Int) > 2147483647 then (some false) else (if (a0_3.size : Int) > 2147483647 then (some false) else (some true))))
set_option maxHeartbeats 8000000 in
set_option maxRecDepth 100000 in
theorem laws_zzFits7.calls (a0_0 : ByteArray) (a0_1 : ByteArray) (a0_2 : ByteArray) (a0_3 : ByteArray) (r : Bool) (w : World) (h : laws_zzFits7.f a0_0 a0_1 a0_2 a0_3 = some r) :
    Calls Try.prog 20 #[.agg #[.string a0_0, .string a0_1, .string a0_2, .string a0_3]] w fun e w' => e = .returned (.bool r) ∧ Below w.heap.size w w' := by
  have hu39 := Try.underlying39
  have HB := Aside0.mk (Below.refl w.heap.size w)
  have H : (if (a0_0.size : Int) > 2147483647 then (some false) else (if (a0_1.size : Int) > 2147483647 then (some false) else (if (a0_2.size : Int) > 2147483647 then (some false) else (if (a0_3.size : Int) > 2147483647 then (some false) else (some true))))) = some r := h
  clear h
  by_cases c2 : (a0_0.size : Int) > 2147483647
  · rw [if_pos c2] at H
    have c2b0 : decide (2147483647 < (a0_0.size : Int)) = true := decide_eq_true c2
    have c2b1 : decide (2147483647 < a0_0.size) = true := decide_eq_true (by omega)
    clear c2
    obtain rfl := Option.some.inj H
    go_enter Try.func20, Try.ntmps20
    go_wp2_with (first | ((with_reducible refine gate_dst (N := 1) rfl ?_); refine box_event ?hg (N := 1) ?hd (cs := #[.string a0_0, .string a0_1, .string a0_2, .string a0_3]) (t := 39) ?hr ?_; (case hd => rfl); (case hg => rfl); (case hr => first | (go_simp; done) | (go_simp; rfl)); intro gb101 hg w3 hbox hb; have n0_ := Aside0.mk (below_step (by repeat (first | (with_reducible first | exact HB.out | apply below_alloc | apply pw_below_drewN | apply below_drew1) | exact HB.out)) hb); have n1_ := Aside0.mk (hbox); have n2_ := Aside0.mk ((by rw [hg]; exact (below_size (by repeat (first | (with_reducible first | exact HB.out | apply below_alloc | apply pw_below_drewN | apply below_drew1) | exact HB.out))) : w.heap.size ≤ gb101)); have n3_ := Aside0.mk ((by rw [hg]; exact (below_size (by repeat (first | (with_reducible first | exact HB.out | apply below_alloc | apply pw_below_drewN | apply below_drew1) | exact HB.out))) : w.heap.size ≤ gb101)); clear HB; have HB := n0_; have BK101 := n1_; have GW101 := n2_; have GE101 := n3_; clear n0_ n1_ n2_ n3_; clear hb hbox hg; have hcz4_0 : w3.cell? ⟨gb101, 0, none⟩ = some (.string a0_0) := (blk_cell BK101.out 0).trans rfl; have hcz4_1 : w3.cell? ⟨gb101, 1, none⟩ = some (.string a0_1) := (blk_cell BK101.out 1).trans rfl; have hcz4_2 : w3.cell? ⟨gb101, 2, none⟩ = some (.string a0_2) := (blk_cell BK101.out 2).trans rfl; have hcz4_3 : w3.cell? ⟨gb101, 3, none⟩ = some (.string a0_3) := (blk_cell BK101.out 3).trans rfl; have hfz4_0 := blk_frozen BK101.out 0; have hfz4_1 := blk_frozen BK101.out 1; have hfz4_2 := blk_frozen BK101.out 2; have hfz4_3 := blk_frozen BK101.out 3))
    go_ret
    exact ⟨by first | rfl | (simp [errW_none, errW_some] <;> rfl) | (simp [*, errW_none, errW_some] <;> rfl), by repeat (first | (with_reducible first | exact HB.out | apply below_alloc | apply pw_below_drewN | apply below_drew1 | refine below_set ?_ GE101.out) | exact HB.out)⟩
  · rw [if_neg c2] at H
    have c2b0 : decide (2147483647 < (a0_0.size : Int)) = false := decide_eq_false c2
    have c2b1 : decide (2147483647 < a0_0.size) = false := decide_eq_false (by omega)
    clear c2
    by_cases c5 : (a0_1.size : Int) > 2147483647
    · rw [if_pos c5] at H
      have c5b0 : decide (2147483647 < (a0_1.size : Int)) = true := decide_eq_true c5
      have c5b1 : decide (2147483647 < a0_1.size) = true := decide_eq_true (by omega)
      clear c5
      obtain rfl := Option.some.inj H
      go_enter Try.func20, Try.ntmps20
      go_wp2_with (first | ((with_reducible refine gate_dst (N := 1) rfl ?_); refine box_event ?hg (N := 1) ?hd (cs := #[.string a0_0, .string a0_1, .string a0_2, .string a0_3]) (t := 39) ?hr ?_; (case hd => rfl); (case hg => rfl); (case hr => first | (go_simp; done) | (go_simp; rfl)); intro gb101 hg w6 hbox hb; have n0_ := Aside0.mk (below_step (by repeat (first | (with_reducible first | exact HB.out | apply below_alloc | apply pw_below_drewN | apply below_drew1) | exact HB.out)) hb); have n1_ := Aside0.mk (hbox); have n2_ := Aside0.mk ((by rw [hg]; exact (below_size (by repeat (first | (with_reducible first | exact HB.out | apply below_alloc | apply pw_below_drewN | apply below_drew1) | exact HB.out))) : w.heap.size ≤ gb101)); have n3_ := Aside0.mk ((by rw [hg]; exact (below_size (by repeat (first | (with_reducible first | exact HB.out | apply below_alloc | apply pw_below_drewN | apply below_drew1) | exact HB.out))) : w.heap.size ≤ gb101)); clear HB; have HB := n0_; have BK101 := n1_; have GW101 := n2_; have GE101 := n3_; clear n0_ n1_ n2_ n3_; clear hb hbox hg; have hcz7_0 : w6.cell? ⟨gb101, 0, none⟩ = some (.string a0_0) := (blk_cell BK101.out 0).trans rfl; have hcz7_1 : w6.cell? ⟨gb101, 1, none⟩ = some (.string a0_1) := (blk_cell BK101.out 1).trans rfl; have hcz7_2 : w6.cell? ⟨gb101, 2, none⟩ = some (.string a0_2) := (blk_cell BK101.out 2).trans rfl; have hcz7_3 : w6.cell? ⟨gb101, 3, none⟩ = some (.string a0_3) := (blk_cell BK101.out 3).trans rfl; have hfz7_0 := blk_frozen BK101.out 0; have hfz7_1 := blk_frozen BK101.out 1; have hfz7_2 := blk_frozen BK101.out 2; have hfz7_3 := blk_frozen BK101.out 3))
      go_ret
      exact ⟨by first | rfl | (simp [errW_none, errW_some] <;> rfl) | (simp [*, errW_none, errW_some] <;> rfl), by repeat (first | (with_reducible first | exact HB.out | apply below_alloc | apply pw_below_drewN | apply below_drew1 | refine below_set ?_ GE101.out) | exact HB.out)⟩
    · rw [if_neg c5] at H
      have c5b0 : decide (2147483647 < (a0_1.size : Int)) = false := decide_eq_false c5
      have c5b1 : decide (2147483647 < a0_1.size) = false := decide_eq_false (by omega)
      clear c5
      by_cases c8 : (a0_2.size : Int) > 2147483647
      · rw [if_pos c8] at H
        have c8b0 : decide (2147483647 < (a0_2.size : Int)) = true := decide_eq_true c8
        have c8b1 : decide (2147483647 < a0_2.size) = true := decide_eq_true (by omega)
        clear c8
        obtain rfl := Option.some.inj H
        go_enter Try.func20, Try.ntmps20
        go_wp2_with (first | ((with_reducible refine gate_dst (N := 1) rfl ?_); refine box_event ?hg (N := 1) ?hd (cs := #[.string a0_0, .string a0_1, .string a0_2, .string a0_3]) (t := 39) ?hr ?_; (case hd => rfl); (case hg => rfl); (case hr => first | (go_simp; done) | (go_simp; rfl)); intro gb101 hg w9 hbox hb; have n0_ := Aside0.mk (below_step (by repeat (first | (with_reducible first | exact HB.out | apply below_alloc | apply pw_below_drewN | apply below_drew1) | exact HB.out)) hb); have n1_ := Aside0.mk (hbox); have n2_ := Aside0.mk ((by rw [hg]; exact (below_size (by repeat (first | (with_reducible first | exact HB.out | apply below_alloc | apply pw_below_drewN | apply below_drew1) | exact HB.out))) : w.heap.size ≤ gb101)); have n3_ := Aside0.mk ((by rw [hg]; exact (below_size (by repeat (first | (with_reducible first | exact HB.out | apply below_alloc | apply pw_below_drewN | apply below_drew1) | exact HB.out))) : w.heap.size ≤ gb101)); clear HB; have HB := n0_; have BK101 := n1_; have GW101 := n2_; have GE101 := n3_; clear n0_ n1_ n2_ n3_; clear hb hbox hg; have hcz10_0 : w9.cell? ⟨gb101, 0, none⟩ = some (.string a0_0) := (blk_cell BK101.out 0).trans rfl; have hcz10_1 : w9.cell? ⟨gb101, 1, none⟩ = some (.string a0_1) := (blk_cell BK101.out 1).trans rfl; have hcz10_2 : w9.cell? ⟨gb101, 2, none⟩ = some (.string a0_2) := (blk_cell BK101.out 2).trans rfl; have hcz10_3 : w9.cell? ⟨gb101, 3, none⟩ = some (.string a0_3) := (blk_cell BK101.out 3).trans rfl; have hfz10_0 := blk_frozen BK101.out 0; have hfz10_1 := blk_frozen BK101.out 1; have hfz10_2 := blk_frozen BK101.out 2; have hfz10_3 := blk_frozen BK101.out 3))
        go_ret
        exact ⟨by first | rfl | (simp [errW_none, errW_some] <;> rfl) | (simp [*, errW_none, errW_some] <;> rfl), by repeat (first | (with_reducible first | exact HB.out | apply below_alloc | apply pw_below_drewN | apply below_drew1 | refine below_set ?_ GE101.out) | exact HB.out)⟩
      · rw [if_neg c8] at H
        have c8b0 : decide (2147483647 < (a0_2.size : Int)) = false := decide_eq_false c8
        have c8b1 : decide (2147483647 < a0_2.size) = false := decide_eq_false (by omega)
        clear c8
        by_cases c11 : (a0_3.size : Int) > 2147483647
        · rw [if_pos c11] at H
          have c11b0 : decide (2147483647 < (a0_3.size : Int)) = true := decide_eq_true c11
          have c11b1 : decide (2147483647 < a0_3.size) = true := decide_eq_true (by omega)
          clear c11
          obtain rfl := Option.some.inj H
          go_enter Try.func20, Try.ntmps20
          go_wp2_with (first | ((with_reducible refine gate_dst (N := 1) rfl ?_); refine box_event ?hg (N := 1) ?hd (cs := #[.string a0_0, .string a0_1, .string a0_2, .string a0_3]) (t := 39) ?hr ?_; (case hd => rfl); (case hg => rfl); (case hr => first | (go_simp; done) | (go_simp; rfl)); intro gb101 hg w12 hbox hb; have n0_ := Aside0.mk (below_step (by repeat (first | (with_reducible first | exact HB.out | apply below_alloc | apply pw_below_drewN | apply below_drew1) | exact HB.out)) hb); have n1_ := Aside0.mk (hbox); have n2_ := Aside0.mk ((by rw [hg]; exact (below_size (by repeat (first | (with_reducible first | exact HB.out | apply below_alloc | apply pw_below_drewN | apply below_drew1) | exact HB.out))) : w.heap.size ≤ gb101)); have n3_ := Aside0.mk ((by rw [hg]; exact (below_size (by repeat (first | (with_reducible first | exact HB.out | apply below_alloc | apply pw_below_drewN | apply below_drew1) | exact HB.out))) : w.heap.size ≤ gb101)); clear HB; have HB := n0_; have BK101 := n1_; have GW101 := n2_; have GE101 := n3_; clear n0_ n1_ n2_ n3_; clear hb hbox hg; have hcz13_0 : w12.cell? ⟨gb101, 0, none⟩ = some (.string a0_0) := (blk_cell BK101.out 0).trans rfl; have hcz13_1 : w12.cell? ⟨gb101, 1, none⟩ = some (.string a0_1) := (blk_cell BK101.out 1).trans rfl; have hcz13_2 : w12.cell? ⟨gb101, 2, none⟩ = some (.string a0_2) := (blk_cell BK101.out 2).trans rfl; have hcz13_3 : w12.cell? ⟨gb101, 3, none⟩ = some (.string a0_3) := (blk_cell BK101.out 3).trans rfl; have hfz13_0 := blk_frozen BK101.out 0; have hfz13_1 := blk_frozen BK101.out 1; have hfz13_2 := blk_frozen BK101.out 2; have hfz13_3 := blk_frozen BK101.out 3))
          go_ret
          exact ⟨by first | rfl | (simp [errW_none, errW_some] <;> rfl) | (simp [*, errW_none, errW_some] <;> rfl), by repeat (first | (with_reducible first | exact HB.out | apply below_alloc | apply pw_below_drewN | apply below_drew1 | refine below_set ?_ GE101.out) | exact HB.out)⟩
        · rw [if_neg c11] at H
          have c11b0 : decide (2147483647 < (a0_3.size : Int)) = false := decide_eq_false c11
          have c11b1 : decide (2147483647 < a0_3.size) = false := decide_eq_false (by omega)
          clear c11
          obtain rfl := Option.some.inj H
          go_enter Try.func20, Try.ntmps20
          go_wp2_with (first | ((with_reducible refine gate_dst (N := 1) rfl ?_); refine box_event ?hg (N := 1) ?hd (cs := #[.string a0_0, .string a0_1, .string a0_2, .string a0_3]) (t := 39) ?hr ?_; (case hd => rfl); (case hg => rfl); (case hr => first | (go_simp; done) | (go_simp; rfl)); intro gb101 hg w14 hbox hb; have n0_ := Aside0.mk (below_step (by repeat (first | (with_reducible first | exact HB.out | apply below_alloc | apply pw_below_drewN | apply below_drew1) | exact HB.out)) hb); have n1_ := Aside0.mk (hbox); have n2_ := Aside0.mk ((by rw [hg]; exact (below_size (by repeat (first | (with_reducible first | exact HB.out | apply below_alloc | apply pw_below_drewN | apply below_drew1) | exact HB.out))) : w.heap.size ≤ gb101)); have n3_ := Aside0.mk ((by rw [hg]; exact (below_size (by repeat (first | (with_reducible first | exact HB.out | apply below_alloc | apply pw_below_drewN | apply below_drew1) | exact HB.out))) : w.heap.size ≤ gb101)); clear HB; have HB := n0_; have BK101 := n1_; have GW101 := n2_; have GE101 := n3_; clear n0_ n1_ n2_ n3_; clear hb hbox hg; have hcz15_0 : w14.cell? ⟨gb101, 0, none⟩ = some (.string a0_0) := (blk_cell BK101.out 0).trans rfl; have hcz15_1 : w14.cell? ⟨gb101, 1, none⟩ = some (.string a0_1) := (blk_cell BK101.out 1).trans rfl; have hcz15_2 : w14.cell? ⟨gb101, 2, none⟩ = some (.string a0_2) := (blk_cell BK101.out 2).trans rfl; have hcz15_3 : w14.cell? ⟨gb101, 3, none⟩ = some (.string a0_3) := (blk_cell BK101.out 3).trans rfl; have hfz15_0 := blk_frozen BK101.out 0; have hfz15_1 := blk_frozen BK101.out 1; have hfz15_2 := blk_frozen BK101.out 2; have hfz15_3 := blk_frozen BK101.out 3))
          go_ret
          exact ⟨by first | rfl | (simp [errW_none, errW_some] <;> rfl) | (simp [*, errW_none, errW_some] <;> rfl), by repeat (first | (with_reducible first | exact HB.out | apply below_alloc | apply pw_below_drewN | apply below_drew1 | refine below_set ?_ GE101.out) | exact HB.out)⟩

/-! ### laws_refShort: function 21 -/
def laws_refShort.f (a0_0 : ByteArray) (a0_1 : ByteArray) (a0_2 : ByteArray) (a0_3 : ByteArray) : Option (Bool) := if (wrap64 ((wrap64 ((wrap64 ((a0_0.size : Int) + (a0_1.size : Int))) + (a0_2.size : Int))) + (a0_3.size : Int))) ≤ 65536 then (if a0_1.toList = ([] : List UInt8) then (some (a0_0.toList == ([] : List UInt8))) else (some true)) else (some false)
set_option maxHeartbeats 8000000 in
set_option maxRecDepth 100000 in
theorem laws_refShort.calls (a0_0 : ByteArray) (a0_1 : ByteArray) (a0_2 : ByteArray) (a0_3 : ByteArray) (r : Bool) (w : World) (h : laws_refShort.f a0_0 a0_1 a0_2 a0_3 = some r) :
    Calls Try.prog 21 #[.agg #[.string a0_0, .string a0_1, .string a0_2, .string a0_3]] w fun e w' => e = .returned (.bool r) ∧ Below w.heap.size w w' := by
  have hu39 := Try.underlying39
  have HB := Aside0.mk (Below.refl w.heap.size w)
  have H : (if (wrap64 ((wrap64 ((wrap64 ((a0_0.size : Int) + (a0_1.size : Int))) + (a0_2.size : Int))) + (a0_3.size : Int))) ≤ 65536 then (if a0_1.toList = ([] : List UInt8) then (some (a0_0.toList == ([] : List UInt8))) else (some true)) else (some false)) = some r := h
  clear h
  by_cases c2 : (wrap64 ((wrap64 ((wrap64 ((a0_0.size : Int) + (a0_1.size : Int))) + (a0_2.size : Int))) + (a0_3.size : Int))) ≤ 65536
  · rw [if_pos c2] at H
    have c2b0 : decide ((wrap64 ((wrap64 ((wrap64 ((a0_0.size : Int) + (a0_1.size : Int))) + (a0_2.size : Int))) + (a0_3.size : Int))) ≤ 65536) = true := decide_eq_true c2
    clear c2
    by_cases c3 : a0_1.toList = ([] : List UInt8)
    · rw [if_pos c3] at H
      have c3b0 : (a0_1.toList == ([] : List UInt8)) = true := beq_iff_eq.mpr c3
      have c3b1 : (a0_1.toList != ([] : List UInt8)) = false := bne_eq_false_iff_eq.mpr c3
      clear c3
      obtain rfl := Option.some.inj H
      go_enter Try.func21, Try.ntmps21
      go_wp2_with (first | ((with_reducible refine gate_dst (N := 1) rfl ?_); refine box_event ?hg (N := 1) ?hd (cs := #[.string a0_0, .string a0_1, .string a0_2, .string a0_3]) (t := 39) ?hr ?_; (case hd => rfl); (case hg => rfl); (case hr => first | (go_simp; done) | (go_simp; rfl)); intro gb102 hg w4 hbox hb; have n0_ := Aside0.mk (below_step (by repeat (first | (with_reducible first | exact HB.out | apply below_alloc | apply pw_below_drewN | apply below_drew1) | exact HB.out)) hb); have n1_ := Aside0.mk (hbox); have n2_ := Aside0.mk ((by rw [hg]; exact (below_size (by repeat (first | (with_reducible first | exact HB.out | apply below_alloc | apply pw_below_drewN | apply below_drew1) | exact HB.out))) : w.heap.size ≤ gb102)); have n3_ := Aside0.mk ((by rw [hg]; exact (below_size (by repeat (first | (with_reducible first | exact HB.out | apply below_alloc | apply pw_below_drewN | apply below_drew1) | exact HB.out))) : w.heap.size ≤ gb102)); clear HB; have HB := n0_; have BK102 := n1_; have GW102 := n2_; have GE102 := n3_; clear n0_ n1_ n2_ n3_; clear hb hbox hg; have hcz5_0 : w4.cell? ⟨gb102, 0, none⟩ = some (.string a0_0) := (blk_cell BK102.out 0).trans rfl; have hcz5_1 : w4.cell? ⟨gb102, 1, none⟩ = some (.string a0_1) := (blk_cell BK102.out 1).trans rfl; have hcz5_2 : w4.cell? ⟨gb102, 2, none⟩ = some (.string a0_2) := (blk_cell BK102.out 2).trans rfl; have hcz5_3 : w4.cell? ⟨gb102, 3, none⟩ = some (.string a0_3) := (blk_cell BK102.out 3).trans rfl; have hfz5_0 := blk_frozen BK102.out 0; have hfz5_1 := blk_frozen BK102.out 1; have hfz5_2 := blk_frozen BK102.out 2; have hfz5_3 := blk_frozen BK102.out 3))
      go_ret
      exact ⟨by first | rfl | (simp [errW_none, errW_some] <;> rfl) | (simp [*, errW_none, errW_some] <;> rfl), by repeat (first | (with_reducible first | exact HB.out | apply below_alloc | apply pw_below_drewN | apply below_drew1 | refine below_set ?_ GE102.out) | exact HB.out)⟩
    · rw [if_neg c3] at H
      have c3b0 : (a0_1.toList == ([] : List UInt8)) = false := beq_eq_false_iff_ne.mpr c3
      have c3b1 : (a0_1.toList != ([] : List UInt8)) = true := bne_iff_ne.mpr c3
      obtain rfl := Option.some.inj H
      go_enter Try.func21, Try.ntmps21
      go_wp2_with (first | ((with_reducible refine gate_dst (N := 1) rfl ?_); refine box_event ?hg (N := 1) ?hd (cs := #[.string a0_0, .string a0_1, .string a0_2, .string a0_3]) (t := 39) ?hr ?_; (case hd => rfl); (case hg => rfl); (case hr => first | (go_simp; done) | (go_simp; rfl)); intro gb102 hg w6 hbox hb; have n0_ := Aside0.mk (below_step (by repeat (first | (with_reducible first | exact HB.out | apply below_alloc | apply pw_below_drewN | apply below_drew1) | exact HB.out)) hb); have n1_ := Aside0.mk (hbox); have n2_ := Aside0.mk ((by rw [hg]; exact (below_size (by repeat (first | (with_reducible first | exact HB.out | apply below_alloc | apply pw_below_drewN | apply below_drew1) | exact HB.out))) : w.heap.size ≤ gb102)); have n3_ := Aside0.mk ((by rw [hg]; exact (below_size (by repeat (first | (with_reducible first | exact HB.out | apply below_alloc | apply pw_below_drewN | apply below_drew1) | exact HB.out))) : w.heap.size ≤ gb102)); clear HB; have HB := n0_; have BK102 := n1_; have GW102 := n2_; have GE102 := n3_; clear n0_ n1_ n2_ n3_; clear hb hbox hg; have hcz7_0 : w6.cell? ⟨gb102, 0, none⟩ = some (.string a0_0) := (blk_cell BK102.out 0).trans rfl; have hcz7_1 : w6.cell? ⟨gb102, 1, none⟩ = some (.string a0_1) := (blk_cell BK102.out 1).trans rfl; have hcz7_2 : w6.cell? ⟨gb102, 2, none⟩ = some (.string a0_2) := (blk_cell BK102.out 2).trans rfl; have hcz7_3 : w6.cell? ⟨gb102, 3, none⟩ = some (.string a0_3) := (blk_cell BK102.out 3).trans rfl; have hfz7_0 := blk_frozen BK102.out 0; have hfz7_1 := blk_frozen BK102.out 1; have hfz7_2 := blk_frozen BK102.out 2; have hfz7_3 := blk_frozen BK102.out 3))
      go_ret
      exact ⟨by first | rfl | (simp [errW_none, errW_some] <;> rfl) | (simp [*, errW_none, errW_some] <;> rfl), by repeat (first | (with_reducible first | exact HB.out | apply below_alloc | apply pw_below_drewN | apply below_drew1 | refine below_set ?_ GE102.out) | exact HB.out)⟩
  · rw [if_neg c2] at H
    have c2b0 : decide ((wrap64 ((wrap64 ((wrap64 ((a0_0.size : Int) + (a0_1.size : Int))) + (a0_2.size : Int))) + (a0_3.size : Int))) ≤ 65536) = false := decide_eq_false c2
    clear c2
    obtain rfl := Option.some.inj H
    go_enter Try.func21, Try.ntmps21
    go_wp2_with (first | ((with_reducible refine gate_dst (N := 1) rfl ?_); refine box_event ?hg (N := 1) ?hd (cs := #[.string a0_0, .string a0_1, .string a0_2, .string a0_3]) (t := 39) ?hr ?_; (case hd => rfl); (case hg => rfl); (case hr => first | (go_simp; done) | (go_simp; rfl)); intro gb102 hg w8 hbox hb; have n0_ := Aside0.mk (below_step (by repeat (first | (with_reducible first | exact HB.out | apply below_alloc | apply pw_below_drewN | apply below_drew1) | exact HB.out)) hb); have n1_ := Aside0.mk (hbox); have n2_ := Aside0.mk ((by rw [hg]; exact (below_size (by repeat (first | (with_reducible first | exact HB.out | apply below_alloc | apply pw_below_drewN | apply below_drew1) | exact HB.out))) : w.heap.size ≤ gb102)); have n3_ := Aside0.mk ((by rw [hg]; exact (below_size (by repeat (first | (with_reducible first | exact HB.out | apply below_alloc | apply pw_below_drewN | apply below_drew1) | exact HB.out))) : w.heap.size ≤ gb102)); clear HB; have HB := n0_; have BK102 := n1_; have GW102 := n2_; have GE102 := n3_; clear n0_ n1_ n2_ n3_; clear hb hbox hg; have hcz9_0 : w8.cell? ⟨gb102, 0, none⟩ = some (.string a0_0) := (blk_cell BK102.out 0).trans rfl; have hcz9_1 : w8.cell? ⟨gb102, 1, none⟩ = some (.string a0_1) := (blk_cell BK102.out 1).trans rfl; have hcz9_2 : w8.cell? ⟨gb102, 2, none⟩ = some (.string a0_2) := (blk_cell BK102.out 2).trans rfl; have hcz9_3 : w8.cell? ⟨gb102, 3, none⟩ = some (.string a0_3) := (blk_cell BK102.out 3).trans rfl; have hfz9_0 := blk_frozen BK102.out 0; have hfz9_1 := blk_frozen BK102.out 1; have hfz9_2 := blk_frozen BK102.out 2; have hfz9_3 := blk_frozen BK102.out 3))
    go_ret
    exact ⟨by first | rfl | (simp [errW_none, errW_some] <;> rfl) | (simp [*, errW_none, errW_some] <;> rfl), by repeat (first | (with_reducible first | exact HB.out | apply below_alloc | apply pw_below_drewN | apply below_drew1 | refine below_set ?_ GE102.out) | exact HB.out)⟩

-- NOT PRINTED: function 47 (reference_getBestReferenceType)

-- NOT PRINTED: function 43 (reference_ZZRef)

-- NOT PRINTED: function 35 (impl_ref)

-- NOT PRINTED: function 22 (impl_RefText)

/-! ### spec_RefName: function 36 -/
def spec_RefName.f (a0_0 : ByteArray) (a0_1 : ByteArray) (a0_2 : ByteArray) (a0_3 : ByteArray) : Option (ByteArray) := if a0_0.toList = ([] : List UInt8) then (some a0_1) else (if a0_0.size + 1 ≤ 9223372036854775807 then (if (a0_0 ++ (⟨#[47]⟩ : ByteArray)).size + a0_1.size ≤ 9223372036854775807 then (some ((a0_0 ++ (⟨#[47]⟩ : ByteArray)) ++ a0_1)) else (none)) else (none))
set_option maxHeartbeats 8000000 in
set_option maxRecDepth 100000 in
theorem spec_RefName.calls (a0_0 : ByteArray) (a0_1 : ByteArray) (a0_2 : ByteArray) (a0_3 : ByteArray) (r : ByteArray) (w : World) (h : spec_RefName.f a0_0 a0_1 a0_2 a0_3 = some r) :
    Calls Try.prog 36 #[.agg #[.string a0_0, .string a0_1, .string a0_2, .string a0_3]] w fun e w' => e = .returned (.string r) ∧ Below w.heap.size w w' := by
  have hu39 := Try.underlying39
  have HB := Aside0.mk (Below.refl w.heap.size w)
  have H : (if a0_0.toList = ([] : List UInt8) then (some a0_1) else (if a0_0.size + 1 ≤ 9223372036854775807 then (if (a0_0 ++ (⟨#[47]⟩ : ByteArray)).size + a0_1.size ≤ 9223372036854775807 then (some ((a0_0 ++ (⟨#[47]⟩ : ByteArray)) ++ a0_1)) else (none)) else (none))) = some r := h
  clear h
  by_cases c2 : a0_0.toList = ([] : List UInt8)
  · rw [if_pos c2] at H
    have c2b0 : (a0_0.toList == ([] : List UInt8)) = true := beq_iff_eq.mpr c2
    have c2b1 : (a0_0.toList != ([] : List UInt8)) = false := bne_eq_false_iff_eq.mpr c2
    clear c2
    obtain rfl := Option.some.inj H
    go_enter Try.func36, Try.ntmps36
    go_wp2_with (first | ((with_reducible refine gate_dst (N := 1) rfl ?_); refine box_event ?hg (N := 1) ?hd (cs := #[.string a0_0, .string a0_1, .string a0_2, .string a0_3]) (t := 39) ?hr ?_; (case hd => rfl); (case hg => rfl); (case hr => first | (go_simp; done) | (go_simp; rfl)); intro gb104 hg w3 hbox hb; have n0_ := Aside0.mk (below_step (by repeat (first | (with_reducible first | exact HB.out | apply below_alloc | apply pw_below_drewN | apply below_drew1) | exact HB.out)) hb); have n1_ := Aside0.mk (hbox); have n2_ := Aside0.mk ((by rw [hg]; exact (below_size (by repeat (first | (with_reducible first | exact HB.out | apply below_alloc | apply pw_below_drewN | apply below_drew1) | exact HB.out))) : w.heap.size ≤ gb104)); have n3_ := Aside0.mk ((by rw [hg]; exact (below_size (by repeat (first | (with_reducible first | exact HB.out | apply below_alloc | apply pw_below_drewN | apply below_drew1) | exact HB.out))) : w.heap.size ≤ gb104)); clear HB; have HB := n0_; have BK104 := n1_; have GW104 := n2_; have GE104 := n3_; clear n0_ n1_ n2_ n3_; clear hb hbox hg; have hcz4_0 : w3.cell? ⟨gb104, 0, none⟩ = some (.string a0_0) := (blk_cell BK104.out 0).trans rfl; have hcz4_1 : w3.cell? ⟨gb104, 1, none⟩ = some (.string a0_1) := (blk_cell BK104.out 1).trans rfl; have hcz4_2 : w3.cell? ⟨gb104, 2, none⟩ = some (.string a0_2) := (blk_cell BK104.out 2).trans rfl; have hcz4_3 : w3.cell? ⟨gb104, 3, none⟩ = some (.string a0_3) := (blk_cell BK104.out 3).trans rfl; have hfz4_0 := blk_frozen BK104.out 0; have hfz4_1 := blk_frozen BK104.out 1; have hfz4_2 := blk_frozen BK104.out 2; have hfz4_3 := blk_frozen BK104.out 3))
    go_ret
    exact ⟨by first | rfl | (simp [errW_none, errW_some] <;> rfl) | (simp [*, errW_none, errW_some] <;> rfl), by repeat (first | (with_reducible first | exact HB.out | apply below_alloc | apply pw_below_drewN | apply below_drew1 | refine below_set ?_ GE104.out) | exact HB.out)⟩
  · rw [if_neg c2] at H
    have c2b0 : (a0_0.toList == ([] : List UInt8)) = false := beq_eq_false_iff_ne.mpr c2
    have c2b1 : (a0_0.toList != ([] : List UInt8)) = true := bne_iff_ne.mpr c2
    by_cases c5 : a0_0.size + 1 ≤ 9223372036854775807
    · rw [if_pos c5] at H
      have c5b0 := eq_true c5
      have c5b1 : decide (a0_0.size + 1 ≤ 9223372036854775807) = true := decide_eq_true c5
      try have c5b2 : (9223372036854775807 < a0_0.size + 1) = False := eq_false (Nat.not_lt.2 c5)
      by_cases c6 : (a0_0 ++ (⟨#[47]⟩ : ByteArray)).size + a0_1.size ≤ 9223372036854775807
      · rw [if_pos c6] at H
        have c6b0 := eq_true c6
        have c6b1 : decide ((a0_0 ++ (⟨#[47]⟩ : ByteArray)).size + a0_1.size ≤ 9223372036854775807) = true := decide_eq_true c6
        try have c6b2 : (9223372036854775807 < (a0_0 ++ (⟨#[47]⟩ : ByteArray)).size + a0_1.size) = False := eq_false (Nat.not_lt.2 c6)
        obtain rfl := Option.some.inj H
        go_enter Try.func36, Try.ntmps36
        go_wp2_with (first | ((with_reducible refine gate_dst (N := 1) rfl ?_); refine box_event ?hg (N := 1) ?hd (cs := #[.string a0_0, .string a0_1, .string a0_2, .string a0_3]) (t := 39) ?hr ?_; (case hd => rfl); (case hg => rfl); (case hr => first | (go_simp; done) | (go_simp; rfl)); intro gb104 hg w7 hbox hb; have n0_ := Aside0.mk (below_step (by repeat (first | (with_reducible first | exact HB.out | apply below_alloc | apply pw_below_drewN | apply below_drew1) | exact HB.out)) hb); have n1_ := Aside0.mk (hbox); have n2_ := Aside0.mk ((by rw [hg]; exact (below_size (by repeat (first | (with_reducible first | exact HB.out | apply below_alloc | apply pw_below_drewN | apply below_drew1) | exact HB.out))) : w.heap.size ≤ gb104)); have n3_ := Aside0.mk ((by rw [hg]; exact (below_size (by repeat (first | (with_reducible first | exact HB.out | apply below_alloc | apply pw_below_drewN | apply below_drew1) | exact HB.out))) : w.heap.size ≤ gb104)); clear HB; have HB := n0_; have BK104 := n1_; have GW104 := n2_; have GE104 := n3_; clear n0_ n1_ n2_ n3_; clear hb hbox hg; have hcz8_0 : w7.cell? ⟨gb104, 0, none⟩ = some (.string a0_0) := (blk_cell BK104.out 0).trans rfl; have hcz8_1 : w7.cell? ⟨gb104, 1, none⟩ = some (.string a0_1) := (blk_cell BK104.out 1).trans rfl; have hcz8_2 : w7.cell? ⟨gb104, 2, none⟩ = some (.string a0_2) := (blk_cell BK104.out 2).trans rfl; have hcz8_3 : w7.cell? ⟨gb104, 3, none⟩ = some (.string a0_3) := (blk_cell BK104.out 3).trans rfl; have hfz8_0 := blk_frozen BK104.out 0; have hfz8_1 := blk_frozen BK104.out 1; have hfz8_2 := blk_frozen BK104.out 2; have hfz8_3 := blk_frozen BK104.out 3))
        go_ret
        exact ⟨by first | rfl | (simp [errW_none, errW_some] <;> rfl) | (simp [*, errW_none, errW_some] <;> rfl), by repeat (first | (with_reducible first | exact HB.out | apply below_alloc | apply pw_below_drewN | apply below_drew1 | refine below_set ?_ GE104.out) | exact HB.out)⟩
      · rw [if_neg c6] at H
        exact absurd H (by simp)
    · rw [if_neg c5] at H
      exact absurd H (by simp)

/-! ### spec_RefText: function 23 -/
def spec_RefText.f (a0_0 : ByteArray) (a0_1 : ByteArray) (a0_2 : ByteArray) (a0_3 : ByteArray) : Option (ByteArray) := if a0_1.toList = ([] : List UInt8) then (some a0_3) else ((spec_RefName.f a0_0 a0_1 a0_2 a0_3).bind fun t106 => (if a0_2.toList = ([] : List UInt8) then (if a0_3.toList = ([] : List UInt8) then (some t106) else (if 1 + a0_3.size ≤ 9223372036854775807 then (if t106.size + ((⟨#[64]⟩ : ByteArray) ++ a0_3).size ≤ 9223372036854775807 then (some (t106 ++ ((⟨#[64]⟩ : ByteArray) ++ a0_3))) else (none)) else (none))) else (if 1 + a0_2.size ≤ 9223372036854775807 then (if t106.size + ((⟨#[58]⟩ : ByteArray) ++ a0_2).size ≤ 9223372036854775807 then (if a0_3.toList = ([] : List UInt8) then (some (t106 ++ ((⟨#[58]⟩ : ByteArray) ++ a0_2))) else (if 1 + a0_3.size ≤ 9223372036854775807 then (if (t106 ++ ((⟨#[58]⟩ : ByteArray) ++ a0_2)).size + ((⟨#[64]⟩ : ByteArray) ++ a0_3).size ≤ 9223372036854775807 then (some ((t106 ++ ((⟨#[58]⟩ : ByteArray) ++ a0_2)) ++ ((⟨#[64]⟩ : ByteArray) ++ a0_3))) else (none)) else (none))) else (none)) else (none))))
set_option maxHeartbeats 8000000 in
set_option maxRecDepth 100000 in
theorem spec_RefText.calls (a0_0 : ByteArray) (a0_1 : ByteArray) (a0_2 : ByteArray) (a0_3 : ByteArray) (r : ByteArray) (w : World) (h : spec_RefText.f a0_0 a0_1 a0_2 a0_3 = some r) :
    Calls Try.prog 23 #[.agg #[.string a0_0, .string a0_1, .string a0_2, .string a0_3]] w fun e w' => e = .returned (.string r) ∧ Below w.heap.size w w' := by
  have hu39 := Try.underlying39
  have HB := Aside0.mk (Below.refl w.heap.size w)
  have H : (if a0_1.toList = ([] : List UInt8) then (some a0_3) else ((spec_RefName.f a0_0 a0_1 a0_2 a0_3).bind fun t106 => (if a0_2.toList = ([] : List UInt8) then (if a0_3.toList = ([] : List UInt8) then (some t106) else (if 1 + a0_3.size ≤ 9223372036854775807 then (if t106.size + ((⟨#[64]⟩ : ByteArray) ++ a0_3).size ≤ 9223372036854775807 then (some (t106 ++ ((⟨#[64]⟩ : ByteArray) ++ a0_3))) else (none)) else (none))) else (if 1 + a0_2.size ≤ 9223372036854775807 then (if t106.size + ((⟨#[58]⟩ : ByteArray) ++ a0_2).size ≤ 9223372036854775807 then (if a0_3.toList = ([] : List UInt8) then (some (t106 ++ ((⟨#[58]⟩ : ByteArray) ++ a0_2))) else (if 1 + a0_3.size ≤ 9223372036854775807 then (if (t106 ++ ((⟨#[58]⟩ : ByteArray) ++ a0_2)).size + ((⟨#[64]⟩ : ByteArray) ++ a0_3).size ≤ 9223372036854775807 then (some ((t106 ++ ((⟨#[58]⟩ : ByteArray) ++ a0_2)) ++ ((⟨#[64]⟩ : ByteArray) ++ a0_3))) else (none)) else (none))) else (none)) else (none))))) = some r := h
  clear h
  by_cases c2 : a0_1.toList = ([] : List UInt8)
  · rw [if_pos c2] at H
    have c2b0 : (a0_1.toList == ([] : List UInt8)) = true := beq_iff_eq.mpr c2
    have c2b1 : (a0_1.toList != ([] : List UInt8)) = false := bne_eq_false_iff_eq.mpr c2
    clear c2
    obtain rfl := Option.some.inj H
    go_enter Try.func23, Try.ntmps23
    go_wp2_with (first | ((with_reducible refine gate_dst (N := 1) rfl ?_); refine box_event ?hg (N := 1) ?hd (cs := #[.string a0_0, .string a0_1, .string a0_2, .string a0_3]) (t := 39) ?hr ?_; (case hd => rfl); (case hg => rfl); (case hr => first | (go_simp; done) | (go_simp; rfl)); intro gb105 hg w3 hbox hb; have n0_ := Aside0.mk (below_step (by repeat (first | (with_reducible first | exact HB.out | apply below_alloc | apply pw_below_drewN | apply below_drew1) | exact HB.out)) hb); have n1_ := Aside0.mk (hbox); have n2_ := Aside0.mk ((by rw [hg]; exact (below_size (by repeat (first | (with_reducible first | exact HB.out | apply below_alloc | apply pw_below_drewN | apply below_drew1) | exact HB.out))) : w.heap.size ≤ gb105)); have n3_ := Aside0.mk ((by rw [hg]; exact (below_size (by repeat (first | (with_reducible first | exact HB.out | apply below_alloc | apply pw_below_drewN | apply below_drew1) | exact HB.out))) : w.heap.size ≤ gb105)); clear HB; have HB := n0_; have BK105 := n1_; have GW105 := n2_; have GE105 := n3_; clear n0_ n1_ n2_ n3_; clear hb hbox hg; have hcz4_0 : w3.cell? ⟨gb105, 0, none⟩ = some (.string a0_0) := (blk_cell BK105.out 0).trans rfl; have hcz4_1 : w3.cell? ⟨gb105, 1, none⟩ = some (.string a0_1) := (blk_cell BK105.out 1).trans rfl; have hcz4_2 : w3.cell? ⟨gb105, 2, none⟩ = some (.string a0_2) := (blk_cell BK105.out 2).trans rfl; have hcz4_3 : w3.cell? ⟨gb105, 3, none⟩ = some (.string a0_3) := (blk_cell BK105.out 3).trans rfl; have hfz4_0 := blk_frozen BK105.out 0; have hfz4_1 := blk_frozen BK105.out 1; have hfz4_2 := blk_frozen BK105.out 2; have hfz4_3 := blk_frozen BK105.out 3))
    go_ret
    exact ⟨by first | rfl | (simp [errW_none, errW_some] <;> rfl) | (simp [*, errW_none, errW_some] <;> rfl), by repeat (first | (with_reducible first | exact HB.out | apply below_alloc | apply pw_below_drewN | apply below_drew1 | refine below_set ?_ GE105.out) | exact HB.out)⟩
  · rw [if_neg c2] at H
    have c2b0 : (a0_1.toList == ([] : List UInt8)) = false := beq_eq_false_iff_ne.mpr c2
    have c2b1 : (a0_1.toList != ([] : List UInt8)) = true := bne_iff_ne.mpr c2
    replace H := Option.bind_eq_some_iff.mp H
    obtain ⟨t106, A50, H⟩ := H
    replace H : (if a0_2.toList = ([] : List UInt8) then (if a0_3.toList = ([] : List UInt8) then (some t106) else (if 1 + a0_3.size ≤ 9223372036854775807 then (if t106.size + ((⟨#[64]⟩ : ByteArray) ++ a0_3).size ≤ 9223372036854775807 then (some (t106 ++ ((⟨#[64]⟩ : ByteArray) ++ a0_3))) else (none)) else (none))) else (if 1 + a0_2.size ≤ 9223372036854775807 then (if t106.size + ((⟨#[58]⟩ : ByteArray) ++ a0_2).size ≤ 9223372036854775807 then (if a0_3.toList = ([] : List UInt8) then (some (t106 ++ ((⟨#[58]⟩ : ByteArray) ++ a0_2))) else (if 1 + a0_3.size ≤ 9223372036854775807 then (if (t106 ++ ((⟨#[58]⟩ : ByteArray) ++ a0_2)).size + ((⟨#[64]⟩ : ByteArray) ++ a0_3).size ≤ 9223372036854775807 then (some ((t106 ++ ((⟨#[58]⟩ : ByteArray) ++ a0_2)) ++ ((⟨#[64]⟩ : ByteArray) ++ a0_3))) else (none)) else (none))) else (none)) else (none))) = some r := H
    have A5 := Aside0.mk A50
    clear A50
    by_cases c6 : a0_2.toList = ([] : List UInt8)
    · rw [if_pos c6] at H
      have c6b0 : (a0_2.toList == ([] : List UInt8)) = true := beq_iff_eq.mpr c6
      have c6b1 : (a0_2.toList != ([] : List UInt8)) = false := bne_eq_false_iff_eq.mpr c6
      clear c6
      by_cases c7 : a0_3.toList = ([] : List UInt8)
      · rw [if_pos c7] at H
        have c7b0 : (a0_3.toList == ([] : List UInt8)) = true := beq_iff_eq.mpr c7
        have c7b1 : (a0_3.toList != ([] : List UInt8)) = false := bne_eq_false_iff_eq.mpr c7
        clear c7
        obtain rfl := Option.some.inj H
        go_enter Try.func23, Try.ntmps23
        go_wp2_with (first | ((with_reducible refine gate_dst (N := 1) rfl ?_); refine box_event ?hg (N := 1) ?hd (cs := #[.string a0_0, .string a0_1, .string a0_2, .string a0_3]) (t := 39) ?hr ?_; (case hd => rfl); (case hg => rfl); (case hr => first | (go_simp; done) | (go_simp; rfl)); intro gb105 hg w8 hbox hb; have n0_ := Aside0.mk (below_step (by repeat (first | (with_reducible first | exact HB.out | apply below_alloc | apply pw_below_drewN | apply below_drew1) | exact HB.out)) hb); have n1_ := Aside0.mk (hbox); have n2_ := Aside0.mk ((by rw [hg]; exact (below_size (by repeat (first | (with_reducible first | exact HB.out | apply below_alloc | apply pw_below_drewN | apply below_drew1) | exact HB.out))) : w.heap.size ≤ gb105)); have n3_ := Aside0.mk ((by rw [hg]; exact (below_size (by repeat (first | (with_reducible first | exact HB.out | apply below_alloc | apply pw_below_drewN | apply below_drew1) | exact HB.out))) : w.heap.size ≤ gb105)); clear HB; have HB := n0_; have BK105 := n1_; have GW105 := n2_; have GE105 := n3_; clear n0_ n1_ n2_ n3_; clear hb hbox hg; have hcz9_0 : w8.cell? ⟨gb105, 0, none⟩ = some (.string a0_0) := (blk_cell BK105.out 0).trans rfl; have hcz9_1 : w8.cell? ⟨gb105, 1, none⟩ = some (.string a0_1) := (blk_cell BK105.out 1).trans rfl; have hcz9_2 : w8.cell? ⟨gb105, 2, none⟩ = some (.string a0_2) := (blk_cell BK105.out 2).trans rfl; have hcz9_3 : w8.cell? ⟨gb105, 3, none⟩ = some (.string a0_3) := (blk_cell BK105.out 3).trans rfl; have hfz9_0 := blk_frozen BK105.out 0; have hfz9_1 := blk_frozen BK105.out 1; have hfz9_2 := blk_frozen BK105.out 2; have hfz9_3 := blk_frozen BK105.out 3) | ((with_reducible refine gate_callee (f := 36) rfl ?_); refine goesL_ (some 10) rfl rfl Try.func36 (by kernel_rfl) rfl #[.agg #[.string a0_0, .string a0_1, .string a0_2, .string a0_3]] rfl (by (try simp only [List.map_toArray, List.map_cons, List.map_nil]); first | done | rfl | (simp only [List.length_drop, List.length_take]; rfl)) ?_; (with_reducible refine (spec_RefName.calls a0_0 a0_1 a0_2 a0_3 t106 _ A5.out).mono ?_); rintro e w10 ⟨rfl, hb⟩; refine ⟨_, rfl, ?_⟩; have n0_ := Aside0.mk (blk_below (g := gb105) (o := .cells #[.string a0_0, .string a0_1, .string a0_2, .string a0_3] 39 (0, 0)) (by (with_reducible repeat (first | refine blk_drewN ?_ _ | refine blk_drew ?_ | refine blk_alloc ?_ _)); exact BK105.out) hb); have n1_ := Aside0.mk (below_step (by repeat (first | (with_reducible first | exact HB.out | apply below_alloc | apply pw_below_drewN | apply below_drew1 | refine below_set ?_ GE105.out) | exact HB.out)) hb); clear BK105; clear HB; have BK105 := n0_; have HB := n1_; clear n0_ n1_; (try clear hb); (try clear hb2); (try clear hk); (try clear hi); have hcz11_0 : w10.cell? ⟨gb105, 0, none⟩ = some (.string a0_0) := (blk_cell BK105.out 0).trans rfl; have hcz11_1 : w10.cell? ⟨gb105, 1, none⟩ = some (.string a0_1) := (blk_cell BK105.out 1).trans rfl; have hcz11_2 : w10.cell? ⟨gb105, 2, none⟩ = some (.string a0_2) := (blk_cell BK105.out 2).trans rfl; have hcz11_3 : w10.cell? ⟨gb105, 3, none⟩ = some (.string a0_3) := (blk_cell BK105.out 3).trans rfl; have hfz11_0 := blk_frozen BK105.out 0; have hfz11_1 := blk_frozen BK105.out 1; have hfz11_2 := blk_frozen BK105.out 2; have hfz11_3 := blk_frozen BK105.out 3))
        go_ret
        exact ⟨by first | rfl | (simp [errW_none, errW_some] <;> rfl) | (simp [*, errW_none, errW_some] <;> rfl), by repeat (first | (with_reducible first | exact HB.out | apply below_alloc | apply pw_below_drewN | apply below_drew1 | refine below_set ?_ GE105.out) | exact HB.out)⟩
      · rw [if_neg c7] at H
        have c7b0 : (a0_3.toList == ([] : List UInt8)) = false := beq_eq_false_iff_ne.mpr c7
        have c7b1 : (a0_3.toList != ([] : List UInt8)) = true := bne_iff_ne.mpr c7
        by_cases c12 : 1 + a0_3.size ≤ 9223372036854775807
        · rw [if_pos c12] at H
          have c12b0 := eq_true c12
          have c12b1 : decide (1 + a0_3.size ≤ 9223372036854775807) = true := decide_eq_true c12
          try have c12b2 : (9223372036854775807 < 1 + a0_3.size) = False := eq_false (Nat.not_lt.2 c12)
          by_cases c13 : t106.size + ((⟨#[64]⟩ : ByteArray) ++ a0_3).size ≤ 9223372036854775807
          · rw [if_pos c13] at H
            have c13b0 := eq_true c13
            have c13b1 : decide (t106.size + ((⟨#[64]⟩ : ByteArray) ++ a0_3).size ≤ 9223372036854775807) = true := decide_eq_true c13
            try have c13b2 : (9223372036854775807 < t106.size + ((⟨#[64]⟩ : ByteArray) ++ a0_3).size) = False := eq_false (Nat.not_lt.2 c13)
            obtain rfl := Option.some.inj H
            go_enter Try.func23, Try.ntmps23
            go_wp2_with (first | ((with_reducible refine gate_dst (N := 1) rfl ?_); refine box_event ?hg (N := 1) ?hd (cs := #[.string a0_0, .string a0_1, .string a0_2, .string a0_3]) (t := 39) ?hr ?_; (case hd => rfl); (case hg => rfl); (case hr => first | (go_simp; done) | (go_simp; rfl)); intro gb105 hg w14 hbox hb; have n0_ := Aside0.mk (below_step (by repeat (first | (with_reducible first | exact HB.out | apply below_alloc | apply pw_below_drewN | apply below_drew1) | exact HB.out)) hb); have n1_ := Aside0.mk (hbox); have n2_ := Aside0.mk ((by rw [hg]; exact (below_size (by repeat (first | (with_reducible first | exact HB.out | apply below_alloc | apply pw_below_drewN | apply below_drew1) | exact HB.out))) : w.heap.size ≤ gb105)); have n3_ := Aside0.mk ((by rw [hg]; exact (below_size (by repeat (first | (with_reducible first | exact HB.out | apply below_alloc | apply pw_below_drewN | apply below_drew1) | exact HB.out))) : w.heap.size ≤ gb105)); clear HB; have HB := n0_; have BK105 := n1_; have GW105 := n2_; have GE105 := n3_; clear n0_ n1_ n2_ n3_; clear hb hbox hg; have hcz15_0 : w14.cell? ⟨gb105, 0, none⟩ = some (.string a0_0) := (blk_cell BK105.out 0).trans rfl; have hcz15_1 : w14.cell? ⟨gb105, 1, none⟩ = some (.string a0_1) := (blk_cell BK105.out 1).trans rfl; have hcz15_2 : w14.cell? ⟨gb105, 2, none⟩ = some (.string a0_2) := (blk_cell BK105.out 2).trans rfl; have hcz15_3 : w14.cell? ⟨gb105, 3, none⟩ = some (.string a0_3) := (blk_cell BK105.out 3).trans rfl; have hfz15_0 := blk_frozen BK105.out 0; have hfz15_1 := blk_frozen BK105.out 1; have hfz15_2 := blk_frozen BK105.out 2; have hfz15_3 := blk_frozen BK105.out 3) | ((with_reducible refine gate_callee (f := 36) rfl ?_); refine goesL_ (some 10) rfl rfl Try.func36 (by kernel_rfl) rfl #[.agg #[.string a0_0, .string a0_1, .string a0_2, .string a0_3]] rfl (by (try simp only [List.map_toArray, List.map_cons, List.map_nil]); first | done | rfl | (simp only [List.length_drop, List.length_take]; rfl)) ?_; (with_reducible refine (spec_RefName.calls a0_0 a0_1 a0_2 a0_3 t106 _ A5.out).mono ?_); rintro e w16 ⟨rfl, hb⟩; refine ⟨_, rfl, ?_⟩; have n0_ := Aside0.mk (blk_below (g := gb105) (o := .cells #[.string a0_0, .string a0_1, .string a0_2, .string a0_3] 39 (0, 0)) (by (with_reducible repeat (first | refine blk_drewN ?_ _ | refine blk_drew ?_ | refine blk_alloc ?_ _)); exact BK105.out) hb); have n1_ := Aside0.mk (below_step (by repeat (first | (with_reducible first | exact HB.out | apply below_alloc | apply pw_below_drewN | apply below_drew1 | refine below_set ?_ GE105.out) | exact HB.out)) hb); clear BK105; clear HB; have BK105 := n0_; have HB := n1_; clear n0_ n1_; (try clear hb); (try clear hb2); (try clear hk); (try clear hi); have hcz17_0 : w16.cell? ⟨gb105, 0, none⟩ = some (.string a0_0) := (blk_cell BK105.out 0).trans rfl; have hcz17_1 : w16.cell? ⟨gb105, 1, none⟩ = some (.string a0_1) := (blk_cell BK105.out 1).trans rfl; have hcz17_2 : w16.cell? ⟨gb105, 2, none⟩ = some (.string a0_2) := (blk_cell BK105.out 2).trans rfl; have hcz17_3 : w16.cell? ⟨gb105, 3, none⟩ = some (.string a0_3) := (blk_cell BK105.out 3).trans rfl; have hfz17_0 := blk_frozen BK105.out 0; have hfz17_1 := blk_frozen BK105.out 1; have hfz17_2 := blk_frozen BK105.out 2; have hfz17_3 := blk_frozen BK105.out 3))
            go_ret
            exact ⟨by first | rfl | (simp [errW_none, errW_some] <;> rfl) | (simp [*, errW_none, errW_some] <;> rfl), by repeat (first | (with_reducible first | exact HB.out | apply below_alloc | apply pw_below_drewN | apply below_drew1 | refine below_set ?_ GE105.out) | exact HB.out)⟩
          · rw [if_neg c13] at H
            exact absurd H (by simp)
        · rw [if_neg c12] at H
          exact absurd H (by simp)
    · rw [if_neg c6] at H
      have c6b0 : (a0_2.toList == ([] : List UInt8)) = false := beq_eq_false_iff_ne.mpr c6
      have c6b1 : (a0_2.toList != ([] : List UInt8)) = true := bne_iff_ne.mpr c6
      by_cases c18 : 1 + a0_2.size ≤ 9223372036854775807
      · rw [if_pos c18] at H
        have c18b0 := eq_true c18
        have c18b1 : decide (1 + a0_2.size ≤ 9223372036854775807) = true := decide_eq_true c18
        try have c18b2 : (9223372036854775807 < 1 + a0_2.size) = False := eq_false (Nat.not_lt.2 c18)
        by_cases c19 : t106.size + ((⟨#[58]⟩ : ByteArray) ++ a0_2).size ≤ 9223372036854775807
        · rw [if_pos c19] at H
          have c19b0 := eq_true c19
          have c19b1 : decide (t106.size + ((⟨#[58]⟩ : ByteArray) ++ a0_2).size ≤ 9223372036854775807) = true := decide_eq_true c19
          try have c19b2 : (9223372036854775807 < t106.size + ((⟨#[58]⟩ : ByteArray) ++ a0_2).size) = False := eq_false (Nat.not_lt.2 c19)
          by_cases c20 : a0_3.toList = ([] : List UInt8)
          · rw [if_pos c20] at H
            have c20b0 : (a0_3.toList == ([] : List UInt8)) = true := beq_iff_eq.mpr c20
            have c20b1 : (a0_3.toList != ([] : List UInt8)) = false := bne_eq_false_iff_eq.mpr c20
            clear c20
            obtain rfl := Option.some.inj H
            go_enter Try.func23, Try.ntmps23
            go_wp2_with (first | ((with_reducible refine gate_dst (N := 1) rfl ?_); refine box_event ?hg (N := 1) ?hd (cs := #[.string a0_0, .string a0_1, .string a0_2, .string a0_3]) (t := 39) ?hr ?_; (case hd => rfl); (case hg => rfl); (case hr => first | (go_simp; done) | (go_simp; rfl)); intro gb105 hg w21 hbox hb; have n0_ := Aside0.mk (below_step (by repeat (first | (with_reducible first | exact HB.out | apply below_alloc | apply pw_below_drewN | apply below_drew1) | exact HB.out)) hb); have n1_ := Aside0.mk (hbox); have n2_ := Aside0.mk ((by rw [hg]; exact (below_size (by repeat (first | (with_reducible first | exact HB.out | apply below_alloc | apply pw_below_drewN | apply below_drew1) | exact HB.out))) : w.heap.size ≤ gb105)); have n3_ := Aside0.mk ((by rw [hg]; exact (below_size (by repeat (first | (with_reducible first | exact HB.out | apply below_alloc | apply pw_below_drewN | apply below_drew1) | exact HB.out))) : w.heap.size ≤ gb105)); clear HB; have HB := n0_; have BK105 := n1_; have GW105 := n2_; have GE105 := n3_; clear n0_ n1_ n2_ n3_; clear hb hbox hg; have hcz22_0 : w21.cell? ⟨gb105, 0, none⟩ = some (.string a0_0) := (blk_cell BK105.out 0).trans rfl; have hcz22_1 : w21.cell? ⟨gb105, 1, none⟩ = some (.string a0_1) := (blk_cell BK105.out 1).trans rfl; have hcz22_2 : w21.cell? ⟨gb105, 2, none⟩ = some (.string a0_2) := (blk_cell BK105.out 2).trans rfl; have hcz22_3 : w21.cell? ⟨gb105, 3, none⟩ = some (.string a0_3) := (blk_cell BK105.out 3).trans rfl; have hfz22_0 := blk_frozen BK105.out 0; have hfz22_1 := blk_frozen BK105.out 1; have hfz22_2 := blk_frozen BK105.out 2; have hfz22_3 := blk_frozen BK105.out 3) | ((with_reducible refine gate_callee (f := 36) rfl ?_); refine goesL_ (some 10) rfl rfl Try.func36 (by kernel_rfl) rfl #[.agg #[.string a0_0, .string a0_1, .string a0_2, .string a0_3]] rfl (by (try simp only [List.map_toArray, List.map_cons, List.map_nil]); first | done | rfl | (simp only [List.length_drop, List.length_take]; rfl)) ?_; (with_reducible refine (spec_RefName.calls a0_0 a0_1 a0_2 a0_3 t106 _ A5.out).mono ?_); rintro e w23 ⟨rfl, hb⟩; refine ⟨_, rfl, ?_⟩; have n0_ := Aside0.mk (blk_below (g := gb105) (o := .cells #[.string a0_0, .string a0_1, .string a0_2, .string a0_3] 39 (0, 0)) (by (with_reducible repeat (first | refine blk_drewN ?_ _ | refine blk_drew ?_ | refine blk_alloc ?_ _)); exact BK105.out) hb); have n1_ := Aside0.mk (below_step (by repeat (first | (with_reducible first | exact HB.out | apply below_alloc | apply pw_below_drewN | apply below_drew1 | refine below_set ?_ GE105.out) | exact HB.out)) hb); clear BK105; clear HB; have BK105 := n0_; have HB := n1_; clear n0_ n1_; (try clear hb); (try clear hb2); (try clear hk); (try clear hi); have hcz24_0 : w23.cell? ⟨gb105, 0, none⟩ = some (.string a0_0) := (blk_cell BK105.out 0).trans rfl; have hcz24_1 : w23.cell? ⟨gb105, 1, none⟩ = some (.string a0_1) := (blk_cell BK105.out 1).trans rfl; have hcz24_2 : w23.cell? ⟨gb105, 2, none⟩ = some (.string a0_2) := (blk_cell BK105.out 2).trans rfl; have hcz24_3 : w23.cell? ⟨gb105, 3, none⟩ = some (.string a0_3) := (blk_cell BK105.out 3).trans rfl; have hfz24_0 := blk_frozen BK105.out 0; have hfz24_1 := blk_frozen BK105.out 1; have hfz24_2 := blk_frozen BK105.out 2; have hfz24_3 := blk_frozen BK105.out 3))
            go_ret
            exact ⟨by first | rfl | (simp [errW_none, errW_some] <;> rfl) | (simp [*, errW_none, errW_some] <;> rfl), by repeat (first | (with_reducible first | exact HB.out | apply below_alloc | apply pw_below_drewN | apply below_drew1 | refine below_set ?_ GE105.out) | exact HB.out)⟩
          · rw [if_neg c20] at H
            have c20b0 : (a0_3.toList == ([] : List UInt8)) = false := beq_eq_false_iff_ne.mpr c20
            have c20b1 : (a0_3.toList != ([] : List UInt8)) = true := bne_iff_ne.mpr c20
            by_cases c25 : 1 + a0_3.size ≤ 9223372036854775807
            · rw [if_pos c25] at H
              have c25b0 := eq_true c25
              have c25b1 : decide (1 + a0_3.size ≤ 9223372036854775807) = true := decide_eq_true c25
              try have c25b2 : (9223372036854775807 < 1 + a0_3.size) = False := eq_false (Nat.not_lt.2 c25)
              by_cases c26 : (t106 ++ ((⟨#[58]⟩ : ByteArray) ++ a0_2)).size + ((⟨#[64]⟩ : ByteArray) ++ a0_3).size ≤ 9223372036854775807
              · rw [if_pos c26] at H
                have c26b0 := eq_true c26
                have c26b1 : decide ((t106 ++ ((⟨#[58]⟩ : ByteArray) ++ a0_2)).size + ((⟨#[64]⟩ : ByteArray) ++ a0_3).size ≤ 9223372036854775807) = true := decide_eq_true c26
                try have c26b2 : (9223372036854775807 < (t106 ++ ((⟨#[58]⟩ : ByteArray) ++ a0_2)).size + ((⟨#[64]⟩ : ByteArray) ++ a0_3).size) = False := eq_false (Nat.not_lt.2 c26)
                obtain rfl := Option.some.inj H
                go_enter Try.func23, Try.ntmps23
                go_wp2_with (first | ((with_reducible refine gate_dst (N := 1) rfl ?_); refine box_event ?hg (N := 1) ?hd (cs := #[.string a0_0, .string a0_1, .string a0_2, .string a0_3]) (t := 39) ?hr ?_; (case hd => rfl); (case hg => rfl); (case hr => first | (go_simp; done) | (go_simp; rfl)); intro gb105 hg w27 hbox hb; have n0_ := Aside0.mk (below_step (by repeat (first | (with_reducible first | exact HB.out | apply below_alloc | apply pw_below_drewN | apply below_drew1) | exact HB.out)) hb); have n1_ := Aside0.mk (hbox); have n2_ := Aside0.mk ((by rw [hg]; exact (below_size (by repeat (first | (with_reducible first | exact HB.out | apply below_alloc | apply pw_below_drewN | apply below_drew1) | exact HB.out))) : w.heap.size ≤ gb105)); have n3_ := Aside0.mk ((by rw [hg]; exact (below_size (by repeat (first | (with_reducible first | exact HB.out | apply below_alloc | apply pw_below_drewN | apply below_drew1) | exact HB.out))) : w.heap.size ≤ gb105)); clear HB; have HB := n0_; have BK105 := n1_; have GW105 := n2_; have GE105 := n3_; clear n0_ n1_ n2_ n3_; clear hb hbox hg; have hcz28_0 : w27.cell? ⟨gb105, 0, none⟩ = some (.string a0_0) := (blk_cell BK105.out 0).trans rfl; have hcz28_1 : w27.cell? ⟨gb105, 1, none⟩ = some (.string a0_1) := (blk_cell BK105.out 1).trans rfl; have hcz28_2 : w27.cell? ⟨gb105, 2, none⟩ = some (.string a0_2) := (blk_cell BK105.out 2).trans rfl; have hcz28_3 : w27.cell? ⟨gb105, 3, none⟩ = some (.string a0_3) := (blk_cell BK105.out 3).trans rfl; have hfz28_0 := blk_frozen BK105.out 0; have hfz28_1 := blk_frozen BK105.out 1; have hfz28_2 := blk_frozen BK105.out 2; have hfz28_3 := blk_frozen BK105.out 3) | ((with_reducible refine gate_callee (f := 36) rfl ?_); refine goesL_ (some 10) rfl rfl Try.func36 (by kernel_rfl) rfl #[.agg #[.string a0_0, .string a0_1, .string a0_2, .string a0_3]] rfl (by (try simp only [List.map_toArray, List.map_cons, List.map_nil]); first | done | rfl | (simp only [List.length_drop, List.length_take]; rfl)) ?_; (with_reducible refine (spec_RefName.calls a0_0 a0_1 a0_2 a0_3 t106 _ A5.out).mono ?_); rintro e w29 ⟨rfl, hb⟩; refine ⟨_, rfl, ?_⟩; have n0_ := Aside0.mk (blk_below (g := gb105) (o := .cells #[.string a0_0, .string a0_1, .string a0_2, .string a0_3] 39 (0, 0)) (by (with_reducible repeat (first | refine blk_drewN ?_ _ | refine blk_drew ?_ | refine blk_alloc ?_ _)); exact BK105.out) hb); have n1_ := Aside0.mk (below_step (by repeat (first | (with_reducible first | exact HB.out | apply below_alloc | apply pw_below_drewN | apply below_drew1 | refine below_set ?_ GE105.out) | exact HB.out)) hb); clear BK105; clear HB; have BK105 := n0_; have HB := n1_; clear n0_ n1_; (try clear hb); (try clear hb2); (try clear hk); (try clear hi); have hcz30_0 : w29.cell? ⟨gb105, 0, none⟩ = some (.string a0_0) := (blk_cell BK105.out 0).trans rfl; have hcz30_1 : w29.cell? ⟨gb105, 1, none⟩ = some (.string a0_1) := (blk_cell BK105.out 1).trans rfl; have hcz30_2 : w29.cell? ⟨gb105, 2, none⟩ = some (.string a0_2) := (blk_cell BK105.out 2).trans rfl; have hcz30_3 : w29.cell? ⟨gb105, 3, none⟩ = some (.string a0_3) := (blk_cell BK105.out 3).trans rfl; have hfz30_0 := blk_frozen BK105.out 0; have hfz30_1 := blk_frozen BK105.out 1; have hfz30_2 := blk_frozen BK105.out 2; have hfz30_3 := blk_frozen BK105.out 3))
                go_ret
                exact ⟨by first | rfl | (simp [errW_none, errW_some] <;> rfl) | (simp [*, errW_none, errW_some] <;> rfl), by repeat (first | (with_reducible first | exact HB.out | apply below_alloc | apply pw_below_drewN | apply below_drew1 | refine below_set ?_ GE105.out) | exact HB.out)⟩
              · rw [if_neg c26] at H
                exact absurd H (by simp)
            · rw [if_neg c25] at H
              exact absurd H (by simp)
        · rw [if_neg c19] at H
          exact absurd H (by simp)
      · rw [if_neg c18] at H
        exact absurd H (by simp)

-- NOT PRINTED: function 8 (laws_FnRefText)

end Go.Proofs.Ytcmifkepleedmaa.PFnRefText
