-- Written by a program of this session (wip/tools/myprint.py over the kit's print).
import Derived.Test.YtalpehfjjidfhaaDoorMCx0
import Derived.Test.YtalpehfjjidfhaaDoorMCx1
import Derived.Test.YtalpehfjjidfhaaDoorMCx2
namespace Go.Proofs.YtalpehfjjidfhaaDoor.MC
open Go.RowKit Go.Proofs.YtalpehfjjidfhaaDoorW.PrintWords Go.Proofs.YtalpehfjjidfhaaDoorW.PrintLast Go.Proofs.YtalpehfjjidfhaaDoorW.PrintMore Go.Proofs.YtalpehfjjidfhaaDoor
attribute [local go_sem] max2_int min2_int max_two min_two max_three min_three max_four min_four   -- for this text's walks alone
set_option linter.unusedVariables false
set_option linter.unusedSimpArgs false

/-! ### laws_FnSemverTermCaretTilde: function 15 -/
mutual
def laws_FnSemverTermCaretTilde.j0 : Nat → Bool → Int → Int → Int → ByteArray → ByteArray → Int → Int → Int → ByteArray → ByteArray → Option (Bool)
  | 0, _, _, _, _, _, _, _, _, _, _, _ => none
  | k + 1, x14, x150000, x150001, x150002, x150003, x150004, x151000, x151001, x151002, x151003, x151004 => if x14 = true then (some true) else ((spec_Bare.f x150000 x150001 x150002 x150003 x150004).bind fun bt153 => ((spec_Bare.f x151000 x151001 x151002 x151003 x151004).bind fun bt158 => ((spec_Plain.f k bt153.1 bt153.2.1 bt153.2.2.1 bt153.2.2.2.1 bt153.2.2.2.2).bind fun t163 => (if t163 = true then ((laws_stZero.f bt153.1 bt153.2.1 bt153.2.2.1 bt153.2.2.2.1 bt153.2.2.2.2).bind fun t164 => (laws_FnSemverTermCaretTilde.j1 k t164 bt153.1 bt153.2.1 bt153.2.2.1 bt153.2.2.2.1 bt153.2.2.2.2 bt158.1 bt158.2.1 bt158.2.2.1 bt158.2.2.2.1 bt158.2.2.2.2)) else (laws_FnSemverTermCaretTilde.j1 k true bt153.1 bt153.2.1 bt153.2.2.1 bt153.2.2.2.1 bt153.2.2.2.2 bt158.1 bt158.2.1 bt158.2.2.1 bt158.2.2.2.1 bt158.2.2.2.2)))))
def laws_FnSemverTermCaretTilde.j1 : Nat → Bool → Int → Int → Int → ByteArray → ByteArray → Int → Int → Int → ByteArray → ByteArray → Option (Bool)
  | 0, _, _, _, _, _, _, _, _, _, _, _ => none
  | k + 1, x25, x150000, x150001, x150002, x150003, x150004, x151000, x151001, x151002, x151003, x151004 => if x25 = true then (some true) else ((laws_stHolds.f 7 x150000 x150001 x150002 x150003 x150004 3 x151000 x151001 x151002 x151003 x151004).bind fun t165 => ((laws_stHolds.f 6 x150000 x150001 x150002 x150003 x150004 3 x151000 x151001 x151002 x151003 x151004).bind fun t166 => (if x150000 > 0 then (if t166 = true then (if (t165 == true) = true then ((laws_stHolds.f 7 x150000 x150001 x150002 x150003 x150004 3 x150000 x150001 x150002 x150003 x150004).bind fun t167 => (some t167)) else (some false)) else ((spec_IncMinor.f x150000 x150001 x150002 x150003 x150004).bind fun bt168 => ((laws_stHolds.f 7 bt168.1 bt168.2.1 bt168.2.2.1 bt168.2.2.2.1 bt168.2.2.2.2 3 x151000 x151001 x151002 x151003 x151004).bind fun t173 => (if (t165 == t173) = true then ((laws_stHolds.f 7 x150000 x150001 x150002 x150003 x150004 3 x150000 x150001 x150002 x150003 x150004).bind fun t174 => (some t174)) else (some false))))) else (if x150001 > 0 then (if (t165 == t166) = true then ((laws_stHolds.f 7 x150000 x150001 x150002 x150003 x150004 3 x150000 x150001 x150002 x150003 x150004).bind fun t175 => (some t175)) else (some false)) else ((laws_stHolds.f 0 x150000 x150001 x150002 x150003 x150004 3 x151000 x151001 x151002 x151003 x151004).bind fun t176 => (if (t165 == t176) = true then ((laws_stHolds.f 7 x150000 x150001 x150002 x150003 x150004 3 x150000 x150001 x150002 x150003 x150004).bind fun t177 => (some t177)) else (some false)))))))
end
def laws_FnSemverTermCaretTilde.f (k : Nat) (a0_0 : Int) (a0_1 : Int) (a0_2 : Int) (a0_3 : ByteArray) (a0_4 : ByteArray) (a1_0 : Int) (a1_1 : Int) (a1_2 : Int) (a1_3 : ByteArray) (a1_4 : ByteArray) : Option (Bool) := (laws_zzFits14.f a0_0 a0_1 a0_2 a0_3 a0_4).bind fun t151 => (if t151 = true then ((laws_zzFits14.f a1_0 a1_1 a1_2 a1_3 a1_4).bind fun t152 => (laws_FnSemverTermCaretTilde.j0 k (!t152) a0_0 a0_1 a0_2 a0_3 a0_4 a1_0 a1_1 a1_2 a1_3 a1_4)) else (laws_FnSemverTermCaretTilde.j0 k true a0_0 a0_1 a0_2 a0_3 a0_4 a1_0 a1_1 a1_2 a1_3 a1_4))
theorem laws_FnSemverTermCaretTilde.mono_l : ∀ k, (∀ y0 y1 y2 y3 y4 y5 y6 y7 y8 y9 y10, LeO (laws_FnSemverTermCaretTilde.j0 k y0 y1 y2 y3 y4 y5 y6 y7 y8 y9 y10) (laws_FnSemverTermCaretTilde.j0 (k + 1) y0 y1 y2 y3 y4 y5 y6 y7 y8 y9 y10)) ∧ (∀ y0 y1 y2 y3 y4 y5 y6 y7 y8 y9 y10, LeO (laws_FnSemverTermCaretTilde.j1 k y0 y1 y2 y3 y4 y5 y6 y7 y8 y9 y10) (laws_FnSemverTermCaretTilde.j1 (k + 1) y0 y1 y2 y3 y4 y5 y6 y7 y8 y9 y10))
  | 0 => ⟨fun _ _ _ _ _ _ _ _ _ _ _ r h => by simp [laws_FnSemverTermCaretTilde.j0] at h, fun _ _ _ _ _ _ _ _ _ _ _ r h => by simp [laws_FnSemverTermCaretTilde.j1] at h⟩
  | k + 1 => by
    obtain ⟨ih0, ih1⟩ := laws_FnSemverTermCaretTilde.mono_l k
    refine ⟨?_, ?_⟩
    · intro y0 y1 y2 y3 y4 y5 y6 y7 y8 y9 y10
      unfold laws_FnSemverTermCaretTilde.j0
      repeat' first
      | (with_reducible exact ih0 _ _ _ _ _ _ _ _ _ _ _)
      | (with_reducible exact ih1 _ _ _ _ _ _ _ _ _ _ _)
      | (with_reducible exact spec_Plain.mono _ _ _ _ _ _)
      | (with_reducible exact LeO.refl _)
      | (with_reducible exact LeO.none _)
      | (with_reducible refine LeO.ite ?_ ?_)
      | (with_reducible refine LeO.bind ?_ (fun _ => ?_))
      | exact ih0 _ _ _ _ _ _ _ _ _ _ _
      | exact ih1 _ _ _ _ _ _ _ _ _ _ _
      | exact spec_Plain.mono _ _ _ _ _ _
      | exact LeO.none _
      | refine LeO.ite ?_ ?_
      | refine LeO.bind ?_ (fun _ => ?_)
    · intro y0 y1 y2 y3 y4 y5 y6 y7 y8 y9 y10
      unfold laws_FnSemverTermCaretTilde.j1
      repeat' first
      | (with_reducible exact ih0 _ _ _ _ _ _ _ _ _ _ _)
      | (with_reducible exact ih1 _ _ _ _ _ _ _ _ _ _ _)
      | (with_reducible exact spec_Plain.mono _ _ _ _ _ _)
      | (with_reducible exact LeO.refl _)
      | (with_reducible exact LeO.none _)
      | (with_reducible refine LeO.ite ?_ ?_)
      | (with_reducible refine LeO.bind ?_ (fun _ => ?_))
      | exact ih0 _ _ _ _ _ _ _ _ _ _ _
      | exact ih1 _ _ _ _ _ _ _ _ _ _ _
      | exact spec_Plain.mono _ _ _ _ _ _
      | exact LeO.none _
      | refine LeO.ite ?_ ?_
      | refine LeO.bind ?_ (fun _ => ?_)
theorem laws_FnSemverTermCaretTilde.mono : ∀ a0 a1 a2 a3 a4 a5 a6 a7 a8 a9 k, LeO (laws_FnSemverTermCaretTilde.f k a0 a1 a2 a3 a4 a5 a6 a7 a8 a9) (laws_FnSemverTermCaretTilde.f (k + 1) a0 a1 a2 a3 a4 a5 a6 a7 a8 a9) := by
  intro a0 a1 a2 a3 a4 a5 a6 a7 a8 a9 k
  obtain ⟨ih0, ih1⟩ := laws_FnSemverTermCaretTilde.mono_l k
  unfold laws_FnSemverTermCaretTilde.f
  repeat' first
      | (with_reducible exact ih0 _ _ _ _ _ _ _ _ _ _ _)
      | (with_reducible exact ih1 _ _ _ _ _ _ _ _ _ _ _)
      | (with_reducible exact spec_Plain.mono _ _ _ _ _ _)
      | (with_reducible exact LeO.refl _)
      | (with_reducible exact LeO.none _)
      | (with_reducible refine LeO.ite ?_ ?_)
      | (with_reducible refine LeO.bind ?_ (fun _ => ?_))
      | exact ih0 _ _ _ _ _ _ _ _ _ _ _
      | exact ih1 _ _ _ _ _ _ _ _ _ _ _
      | exact spec_Plain.mono _ _ _ _ _ _
      | exact LeO.none _
      | refine LeO.ite ?_ ?_
      | refine LeO.bind ?_ (fun _ => ?_)
def laws_FnSemverTermCaretTilde.T6 : Bool × List (List Nat × List Nat) := (true, [([], []), ([], []), ([0, 1], [0, 1]), ([], []), ([], []), ([3, 4, 2], [3, 4]), ([2, 5, 0, 1, 2], [2]), ([5, 6, 0, 1, 2, 3, 4, 5, 6], [5])])
def laws_FnSemverTermCaretTilde.B6 : List Nat := [0, 0, 3, 0, 0, 31, 63, 127]
theorem laws_FnSemverTermCaretTilde.tab6 : rtab .any (opsOf Tryd.f15 6) = laws_FnSemverTermCaretTilde.T6 := by kernel_rfl
theorem laws_FnSemverTermCaretTilde.bits6 : waitsOk laws_FnSemverTermCaretTilde.T6.2 laws_FnSemverTermCaretTilde.B6 = true := by kernel_rfl
def laws_FnSemverTermCaretTilde.T8 : Bool × List (List Nat × List Nat) := (true, [([], []), ([], []), ([1], [1]), ([2], [2]), ([3, 2, 2], [2, 3]), ([2], [2]), ([4, 5, 4, 2], [2, 4, 5]), ([2, 6], [2, 6]), ([0, 7], [0, 7]), ([8, 6], [8]), ([9], [9]), ([9], [9]), ([10, 11, 9, 9], [9, 10, 11]), ([9, 12], [9, 12]), ([13, 12, 0, 1, 2, 3, 4, 5, 6, 7, 8, 9, 10, 11, 12, 13], [13])])
def laws_FnSemverTermCaretTilde.B8 : List Nat := [0, 0, 2, 6, 14, 6, 62, 126, 255, 511, 1023, 1023, 4095, 8191, 16383]
theorem laws_FnSemverTermCaretTilde.tab8 : rtab .any (opsOf Tryd.f15 8) = laws_FnSemverTermCaretTilde.T8 := by kernel_rfl
theorem laws_FnSemverTermCaretTilde.bits8 : waitsOk laws_FnSemverTermCaretTilde.T8.2 laws_FnSemverTermCaretTilde.B8 = true := by kernel_rfl
set_option maxHeartbeats 8000000 in
set_option maxRecDepth 100000 in
theorem laws_FnSemverTermCaretTilde.calls (k : Nat) (a0_0 : Int) (a0_1 : Int) (a0_2 : Int) (a0_3 : ByteArray) (a0_4 : ByteArray) (a1_0 : Int) (a1_1 : Int) (a1_2 : Int) (a1_3 : ByteArray) (a1_4 : ByteArray) (r : Bool) (w : World) (hG0 : Hand.Gl w) (h : laws_FnSemverTermCaretTilde.f k a0_0 a0_1 a0_2 a0_3 a0_4 a1_0 a1_1 a1_2 a1_3 a1_4 = some r) :
    Calls Tryd.prog 15 #[.agg #[.int .u64 a0_0, .int .u64 a0_1, .int .u64 a0_2, .string a0_3, .string a0_4], .agg #[.int .u64 a1_0, .int .u64 a1_1, .int .u64 a1_2, .string a1_3, .string a1_4]] w fun e w' => e = .returned (.bool r) ∧ Below w.heap.size w w' := by
  have HG := Aside0.mk hG0
  clear hG0
  have hu29 := Tryd.underlying29
  have HB := Aside0.mk (Below.refl w.heap.size w)
  have H : ((laws_zzFits14.f a0_0 a0_1 a0_2 a0_3 a0_4).bind fun t151 => (if t151 = true then ((laws_zzFits14.f a1_0 a1_1 a1_2 a1_3 a1_4).bind fun t152 => (laws_FnSemverTermCaretTilde.j0 k (!t152) a0_0 a0_1 a0_2 a0_3 a0_4 a1_0 a1_1 a1_2 a1_3 a1_4)) else (laws_FnSemverTermCaretTilde.j0 k true a0_0 a0_1 a0_2 a0_3 a0_4 a1_0 a1_1 a1_2 a1_3 a1_4))) = some r := h
  clear h
  have HC3 := Aside0.mk H
  clear H
  go_enter Tryd.func15, Tryd.ntmps15
  go_upto_region 1 with (first | ((with_reducible refine gate_dst (N := 2) rfl ?_); refine box_event ?hg (N := 2) ?hd (cs := #[.int .u64 a0_0, .int .u64 a0_1, .int .u64 a0_2, .string a0_3, .string a0_4]) (t := 29) ?hr ?_; (case hd => rfl); (case hg => rfl); (case hr => first | (go_simp; done) | (go_simp; rfl)); intro gb149 hg w4 hbox hb; have n0_ := Aside0.mk (below_step (by repeat (first | (with_reducible first | exact HB.out | apply below_alloc | apply pw_below_drewN | apply below_drew1) | exact HB.out)) hb); have n1_ := Aside0.mk (hbox); have n2_ := Aside0.mk ((by rw [hg]; exact (below_size (by repeat (first | (with_reducible first | exact HB.out | apply below_alloc | apply pw_below_drewN | apply below_drew1) | exact HB.out))) : w.heap.size ≤ gb149)); have n3_ := Aside0.mk ((by rw [hg]; exact (below_size (by repeat (first | (with_reducible first | exact HB.out | apply below_alloc | apply pw_below_drewN | apply below_drew1) | exact HB.out))) : w.heap.size ≤ gb149)); clear HB; have HB := n0_; have BK149 := n1_; have GW149 := n2_; have GE149 := n3_; clear n0_ n1_ n2_ n3_; clear hb hbox hg) | ((with_reducible refine gate_dst (N := 3) rfl ?_); refine box_event ?hg (N := 3) ?hd (cs := #[.int .u64 a1_0, .int .u64 a1_1, .int .u64 a1_2, .string a1_3, .string a1_4]) (t := 29) ?hr ?_; (case hd => rfl); (case hg => rfl); (case hr => first | (go_simp; done) | (go_simp; rfl)); intro gb150 hg w5 hbox hb; have n0_ := Aside0.mk (blk_below (g := gb149) (o := .cells #[.int .u64 a0_0, .int .u64 a0_1, .int .u64 a0_2, .string a0_3, .string a0_4] 29 (0, 0)) (by (with_reducible repeat (first | refine blk_drewN ?_ _ | refine blk_drew ?_ | refine blk_alloc ?_ _)); exact BK149.out) hb); have n1_ := Aside0.mk (below_step (by repeat (first | (with_reducible first | exact HB.out | apply below_alloc | apply pw_below_drewN | apply below_drew1 | refine below_set ?_ GE149.out) | exact HB.out)) hb); have n2_ := Aside0.mk (hbox); have n3_ := Aside0.mk ((by rw [hg]; exact (below_size (by repeat (first | (with_reducible first | exact HB.out | apply below_alloc | apply pw_below_drewN | apply below_drew1 | refine below_set ?_ GE149.out) | exact HB.out))) : w.heap.size ≤ gb150)); have n4_ := Aside0.mk ((by rw [hg]; exact (below_size (by repeat (first | (with_reducible first | exact HB.out | apply below_alloc | apply pw_below_drewN | apply below_drew1 | refine below_set ?_ GE149.out) | exact HB.out))) : w.heap.size ≤ gb150)); have n5_ := Aside0.mk ((by rw [hg]; exact Nat.ne_of_lt (blk_lt (g := gb149) (o := .cells #[.int .u64 a0_0, .int .u64 a0_1, .int .u64 a0_2, .string a0_3, .string a0_4] 29 (0, 0)) (by (with_reducible repeat (first | refine blk_drewN ?_ _ | refine blk_drew ?_ | refine blk_alloc ?_ _)); exact BK149.out)) : gb149 ≠ gb150)); have n6_ := Aside0.mk ((by rw [hg]; exact Nat.ne_of_gt (blk_lt (g := gb149) (o := .cells #[.int .u64 a0_0, .int .u64 a0_1, .int .u64 a0_2, .string a0_3, .string a0_4] 29 (0, 0)) (by (with_reducible repeat (first | refine blk_drewN ?_ _ | refine blk_drew ?_ | refine blk_alloc ?_ _)); exact BK149.out)) : gb150 ≠ gb149)); clear BK149; clear HB; have BK149 := n0_; have HB := n1_; have BK150 := n2_; have GW150 := n3_; have GE150 := n4_; have NB149_150 := n5_; have NB150_149 := n6_; clear n0_ n1_ n2_ n3_ n4_ n5_ n6_; clear hb hbox hg))
  (try simp only [Act.put, List.setIfInBounds_toArray, List.set_cons_zero, List.set_cons_succ])
  go_cut [14] (fun v14 wc => ∃ (kq : Nat) (x14_2 : Bool), v14 = .bool x14_2 ∧ Aside0 (laws_FnSemverTermCaretTilde.j0 kq x14_2 a0_0 a0_1 a0_2 a0_3 a0_4 a1_0 a1_1 a1_2 a1_3 a1_4 = some r) ∧ Aside0 (kq ≤ k) ∧ Aside0 (wc.heap[gb149]? = some (.cells #[.int .u64 a0_0, .int .u64 a0_1, .int .u64 a0_2, .string a0_3, .string a0_4] 29 (0, 0))) ∧ Aside0 (wc.heap[gb150]? = some (.cells #[.int .u64 a1_0, .int .u64 a1_1, .int .u64 a1_2, .string a1_3, .string a1_4] 29 (0, 0))) ∧ Aside0 (Below w.heap.size w wc))
  case first =>
    have H := HC3.out
    clear HC3
    replace H := Option.bind_eq_some_iff.mp H
    obtain ⟨t151, A60, H⟩ := H
    replace H : (if t151 = true then ((laws_zzFits14.f a1_0 a1_1 a1_2 a1_3 a1_4).bind fun t152 => (laws_FnSemverTermCaretTilde.j0 k (!t152) a0_0 a0_1 a0_2 a0_3 a0_4 a1_0 a1_1 a1_2 a1_3 a1_4)) else (laws_FnSemverTermCaretTilde.j0 k true a0_0 a0_1 a0_2 a0_3 a0_4 a1_0 a1_1 a1_2 a1_3 a1_4)) = some r := H
    have A6 := Aside0.mk A60
    clear A60
    by_cases c7 : t151 = true
    · subst c7
      have H1 : ((laws_zzFits14.f a1_0 a1_1 a1_2 a1_3 a1_4).bind fun t152 => (laws_FnSemverTermCaretTilde.j0 k (!t152) a0_0 a0_1 a0_2 a0_3 a0_4 a1_0 a1_1 a1_2 a1_3 a1_4)) = some r := by rw [if_pos rfl] at H; exact H
      clear H
      have H := H1
      clear H1
      replace H := Option.bind_eq_some_iff.mp H
      obtain ⟨t152, A80, H⟩ := H
      replace H : (laws_FnSemverTermCaretTilde.j0 k (!t152) a0_0 a0_1 a0_2 a0_3 a0_4 a1_0 a1_1 a1_2 a1_3 a1_4) = some r := H
      have A8 := Aside0.mk A80
      clear A80
      have H' := Aside0.mk H
      clear H
      have hnb9 := NB149_150.out
      have hnc9 := NB150_149.out
      have hcz10_0 : w5.cell? ⟨gb149, 0, none⟩ = some (.int .u64 a0_0) := (blk_cell BK149.out 0).trans rfl
      have hcz10_1 : w5.cell? ⟨gb149, 1, none⟩ = some (.int .u64 a0_1) := (blk_cell BK149.out 1).trans rfl
      have hcz10_2 : w5.cell? ⟨gb149, 2, none⟩ = some (.int .u64 a0_2) := (blk_cell BK149.out 2).trans rfl
      have hcz10_3 : w5.cell? ⟨gb149, 3, none⟩ = some (.string a0_3) := (blk_cell BK149.out 3).trans rfl
      have hcz10_4 : w5.cell? ⟨gb149, 4, none⟩ = some (.string a0_4) := (blk_cell BK149.out 4).trans rfl
      have hfz10_0 := blk_frozen BK149.out 0
      have hfz10_1 := blk_frozen BK149.out 1
      have hfz10_2 := blk_frozen BK149.out 2
      have hfz10_3 := blk_frozen BK149.out 3
      have hfz10_4 := blk_frozen BK149.out 4
      go_wp2_with (first | ((with_reducible refine gate_callee (f := 25) rfl ?_); refine goesL_ (some 8) rfl rfl Tryd.func25 (by kernel_rfl) rfl #[.agg #[.int .u64 a0_0, .int .u64 a0_1, .int .u64 a0_2, .string a0_3, .string a0_4]] rfl (by (try simp only [List.map_toArray, List.map_cons, List.map_nil]); first | done | rfl | (simp only [List.length_drop, List.length_take]; rfl)) ?_; (with_reducible refine (laws_zzFits14.calls a0_0 a0_1 a0_2 a0_3 a0_4 true _ A6.out).mono ?_); rintro e w11 ⟨rfl, hb⟩; refine ⟨_, rfl, ?_⟩; have n0_ := Aside0.mk (blk_below (g := gb149) (o := .cells #[.int .u64 a0_0, .int .u64 a0_1, .int .u64 a0_2, .string a0_3, .string a0_4] 29 (0, 0)) (by (with_reducible repeat (first | refine blk_drewN ?_ _ | refine blk_drew ?_ | refine blk_alloc ?_ _)); exact BK149.out) hb); have n1_ := Aside0.mk (blk_below (g := gb150) (o := .cells #[.int .u64 a1_0, .int .u64 a1_1, .int .u64 a1_2, .string a1_3, .string a1_4] 29 (0, 0)) (by (with_reducible repeat (first | refine blk_drewN ?_ _ | refine blk_drew ?_ | refine blk_alloc ?_ _)); exact BK150.out) hb); have n2_ := Aside0.mk (below_step (by repeat (first | (with_reducible first | exact HB.out | apply below_alloc | apply pw_below_drewN | apply below_drew1 | refine below_set ?_ GE149.out | refine below_set ?_ GE150.out) | exact HB.out)) hb); clear BK149; clear BK150; clear HB; have BK149 := n0_; have BK150 := n1_; have HB := n2_; clear n0_ n1_ n2_; (try clear hb); (try clear hb2); (try clear hk); (try clear hi); have hcz12_0 : w11.cell? ⟨gb150, 0, none⟩ = some (.int .u64 a1_0) := (blk_cell BK150.out 0).trans rfl; have hcz12_1 : w11.cell? ⟨gb150, 1, none⟩ = some (.int .u64 a1_1) := (blk_cell BK150.out 1).trans rfl; have hcz12_2 : w11.cell? ⟨gb150, 2, none⟩ = some (.int .u64 a1_2) := (blk_cell BK150.out 2).trans rfl; have hcz12_3 : w11.cell? ⟨gb150, 3, none⟩ = some (.string a1_3) := (blk_cell BK150.out 3).trans rfl; have hcz12_4 : w11.cell? ⟨gb150, 4, none⟩ = some (.string a1_4) := (blk_cell BK150.out 4).trans rfl; have hfz12_0 := blk_frozen BK150.out 0; have hfz12_1 := blk_frozen BK150.out 1; have hfz12_2 := blk_frozen BK150.out 2; have hfz12_3 := blk_frozen BK150.out 3; have hfz12_4 := blk_frozen BK150.out 4) | (go_at_call 25; (with_reducible refine (laws_zzFits14.calls a1_0 a1_1 a1_2 a1_3 a1_4 t152 _ A8.out).mono ?_); rintro e w13 ⟨rfl, hb⟩; have n0_ := Aside0.mk (blk_below (g := gb149) (o := .cells #[.int .u64 a0_0, .int .u64 a0_1, .int .u64 a0_2, .string a0_3, .string a0_4] 29 (0, 0)) (by (with_reducible repeat (first | refine blk_drewN ?_ _ | refine blk_drew ?_ | refine blk_alloc ?_ _)); exact BK149.out) hb); have n1_ := Aside0.mk (blk_below (g := gb150) (o := .cells #[.int .u64 a1_0, .int .u64 a1_1, .int .u64 a1_2, .string a1_3, .string a1_4] 29 (0, 0)) (by (with_reducible repeat (first | refine blk_drewN ?_ _ | refine blk_drew ?_ | refine blk_alloc ?_ _)); exact BK150.out) hb); have n2_ := Aside0.mk (below_step (by repeat (first | (with_reducible first | exact HB.out | apply below_alloc | apply pw_below_drewN | apply below_drew1 | refine below_set ?_ GE149.out | refine below_set ?_ GE150.out) | exact HB.out)) hb); clear BK149; clear BK150; clear HB; have BK149 := n0_; have BK150 := n1_; have HB := n2_; clear n0_ n1_ n2_; (try clear hb); (try clear hb2); (try clear hk); (try clear hi)))
      go_meet
      case rel => exact ⟨_, (!t152), (by first | rfl | (simp; done) | (simp [*]; done)), H', ⟨by first | omega | exact Nat.le_refl _⟩, ⟨by (with_reducible repeat (first | refine blk_drewN ?_ _ | refine blk_drew ?_ | refine blk_alloc ?_ _)); exact BK149.out⟩, ⟨by (with_reducible repeat (first | refine blk_drewN ?_ _ | refine blk_drew ?_ | refine blk_alloc ?_ _)); exact BK150.out⟩, ⟨by repeat (first | (with_reducible first | exact HB.out | apply below_alloc | apply pw_below_drewN | apply below_drew1 | refine below_set ?_ GE149.out | refine below_set ?_ GE150.out) | exact HB.out)⟩⟩
    · replace c7 := Bool.eq_false_iff.mpr c7
      subst c7
      have H1 : (laws_FnSemverTermCaretTilde.j0 k true a0_0 a0_1 a0_2 a0_3 a0_4 a1_0 a1_1 a1_2 a1_3 a1_4) = some r := by rw [if_neg (show ¬ (false = true) by decide)] at H; exact H
      clear H
      have H := H1
      clear H1
      have H' := Aside0.mk H
      clear H
      have hnb14 := NB149_150.out
      have hnc14 := NB150_149.out
      have hcz15_0 : w5.cell? ⟨gb149, 0, none⟩ = some (.int .u64 a0_0) := (blk_cell BK149.out 0).trans rfl
      have hcz15_1 : w5.cell? ⟨gb149, 1, none⟩ = some (.int .u64 a0_1) := (blk_cell BK149.out 1).trans rfl
      have hcz15_2 : w5.cell? ⟨gb149, 2, none⟩ = some (.int .u64 a0_2) := (blk_cell BK149.out 2).trans rfl
      have hcz15_3 : w5.cell? ⟨gb149, 3, none⟩ = some (.string a0_3) := (blk_cell BK149.out 3).trans rfl
      have hcz15_4 : w5.cell? ⟨gb149, 4, none⟩ = some (.string a0_4) := (blk_cell BK149.out 4).trans rfl
      have hfz15_0 := blk_frozen BK149.out 0
      have hfz15_1 := blk_frozen BK149.out 1
      have hfz15_2 := blk_frozen BK149.out 2
      have hfz15_3 := blk_frozen BK149.out 3
      have hfz15_4 := blk_frozen BK149.out 4
      go_wp2_with (first | ((with_reducible refine gate_callee (f := 25) rfl ?_); refine goesL_ (some 8) rfl rfl Tryd.func25 (by kernel_rfl) rfl #[.agg #[.int .u64 a0_0, .int .u64 a0_1, .int .u64 a0_2, .string a0_3, .string a0_4]] rfl (by (try simp only [List.map_toArray, List.map_cons, List.map_nil]); first | done | rfl | (simp only [List.length_drop, List.length_take]; rfl)) ?_; (with_reducible refine (laws_zzFits14.calls a0_0 a0_1 a0_2 a0_3 a0_4 false _ A6.out).mono ?_); rintro e w16 ⟨rfl, hb⟩; refine ⟨_, rfl, ?_⟩; have n0_ := Aside0.mk (blk_below (g := gb149) (o := .cells #[.int .u64 a0_0, .int .u64 a0_1, .int .u64 a0_2, .string a0_3, .string a0_4] 29 (0, 0)) (by (with_reducible repeat (first | refine blk_drewN ?_ _ | refine blk_drew ?_ | refine blk_alloc ?_ _)); exact BK149.out) hb); have n1_ := Aside0.mk (blk_below (g := gb150) (o := .cells #[.int .u64 a1_0, .int .u64 a1_1, .int .u64 a1_2, .string a1_3, .string a1_4] 29 (0, 0)) (by (with_reducible repeat (first | refine blk_drewN ?_ _ | refine blk_drew ?_ | refine blk_alloc ?_ _)); exact BK150.out) hb); have n2_ := Aside0.mk (below_step (by repeat (first | (with_reducible first | exact HB.out | apply below_alloc | apply pw_below_drewN | apply below_drew1 | refine below_set ?_ GE149.out | refine below_set ?_ GE150.out) | exact HB.out)) hb); clear BK149; clear BK150; clear HB; have BK149 := n0_; have BK150 := n1_; have HB := n2_; clear n0_ n1_ n2_; (try clear hb); (try clear hb2); (try clear hk); (try clear hi)))
      go_meet
      case rel => exact ⟨_, (true), (by first | rfl | (simp; done) | (simp [*]; done)), H', ⟨by first | omega | exact Nat.le_refl _⟩, ⟨by (with_reducible repeat (first | refine blk_drewN ?_ _ | refine blk_drew ?_ | refine blk_alloc ?_ _)); exact BK149.out⟩, ⟨by (with_reducible repeat (first | refine blk_drewN ?_ _ | refine blk_drew ?_ | refine blk_alloc ?_ _)); exact BK150.out⟩, ⟨by repeat (first | (with_reducible first | exact HB.out | apply below_alloc | apply pw_below_drewN | apply below_drew1 | refine below_set ?_ GE149.out | refine below_set ?_ GE150.out) | exact HB.out)⟩⟩
  case rest =>
    clear HC3
    try clear c1
    try clear c2
    try clear p2
    try clear c7
    try clear c9
    try clear c14
    try clear c15
    try clear hcz10_0
    try clear hcz10_1
    try clear hcz10_2
    try clear hcz10_3
    try clear hcz10_4
    try clear hcz12_0
    try clear hcz12_1
    try clear hcz12_2
    try clear hcz12_3
    try clear hcz12_4
    try clear hcz15_0
    try clear hcz15_1
    try clear hcz15_2
    try clear hcz15_3
    try clear hcz15_4
    try clear hfz10_0
    try clear hfz10_1
    try clear hfz10_2
    try clear hfz10_3
    try clear hfz10_4
    try clear hfz12_0
    try clear hfz12_1
    try clear hfz12_2
    try clear hfz12_3
    try clear hfz12_4
    try clear hfz15_0
    try clear hfz15_1
    try clear hfz15_2
    try clear hfz15_3
    try clear hfz15_4
    obtain ⟨kq, x14_2, rfl, HA, HJ2, BK149, BK150, HB⟩ := hcut
    cases kq with
    | zero => exact absurd HA.out (by simp [laws_FnSemverTermCaretTilde.j0])
    | succ kj2 =>
      have H := HA.out
      clear HA
      simp only [laws_FnSemverTermCaretTilde.j0] at H
      by_cases c17 : x14_2 = true
      · subst c17
        have H1 : (some true) = some r := by rw [if_pos rfl] at H; exact H
        clear H
        have H := H1
        clear H1
        obtain rfl := Option.some.inj H
        go_wp2
        go_ret
        exact ⟨by first | rfl | (simp [errW_none, errW_some] <;> rfl) | (simp [*, errW_none, errW_some] <;> rfl), by repeat (first | (with_reducible first | exact HB.out | apply below_alloc | apply pw_below_drewN | apply below_drew1 | refine below_set ?_ GE149.out | refine below_set ?_ GE150.out) | exact HB.out)⟩
      · replace c17 := Bool.eq_false_iff.mpr c17
        subst c17
        have H1 : ((spec_Bare.f a0_0 a0_1 a0_2 a0_3 a0_4).bind fun bt153 => ((spec_Bare.f a1_0 a1_1 a1_2 a1_3 a1_4).bind fun bt158 => ((spec_Plain.f kj2 bt153.1 bt153.2.1 bt153.2.2.1 bt153.2.2.2.1 bt153.2.2.2.2).bind fun t163 => (if t163 = true then ((laws_stZero.f bt153.1 bt153.2.1 bt153.2.2.1 bt153.2.2.2.1 bt153.2.2.2.2).bind fun t164 => (laws_FnSemverTermCaretTilde.j1 kj2 t164 bt153.1 bt153.2.1 bt153.2.2.1 bt153.2.2.2.1 bt153.2.2.2.2 bt158.1 bt158.2.1 bt158.2.2.1 bt158.2.2.2.1 bt158.2.2.2.2)) else (laws_FnSemverTermCaretTilde.j1 kj2 true bt153.1 bt153.2.1 bt153.2.2.1 bt153.2.2.2.1 bt153.2.2.2.2 bt158.1 bt158.2.1 bt158.2.2.1 bt158.2.2.2.1 bt158.2.2.2.2))))) = some r := by rw [if_neg (show ¬ (false = true) by decide)] at H; exact H
        clear H
        have H := H1
        clear H1
        replace H := Option.bind_eq_some_iff.mp H
        obtain ⟨⟨t153, t154, t155, t156, t157⟩, A180, H⟩ := H
        replace H : ((spec_Bare.f a1_0 a1_1 a1_2 a1_3 a1_4).bind fun bt158 => ((spec_Plain.f kj2 t153 t154 t155 t156 t157).bind fun t163 => (if t163 = true then ((laws_stZero.f t153 t154 t155 t156 t157).bind fun t164 => (laws_FnSemverTermCaretTilde.j1 kj2 t164 t153 t154 t155 t156 t157 bt158.1 bt158.2.1 bt158.2.2.1 bt158.2.2.2.1 bt158.2.2.2.2)) else (laws_FnSemverTermCaretTilde.j1 kj2 true t153 t154 t155 t156 t157 bt158.1 bt158.2.1 bt158.2.2.1 bt158.2.2.2.1 bt158.2.2.2.2)))) = some r := H
        have A18 := Aside0.mk A180
        clear A180
        replace H := Option.bind_eq_some_iff.mp H
        obtain ⟨⟨t158, t159, t160, t161, t162⟩, A190, H⟩ := H
        replace H : ((spec_Plain.f kj2 t153 t154 t155 t156 t157).bind fun t163 => (if t163 = true then ((laws_stZero.f t153 t154 t155 t156 t157).bind fun t164 => (laws_FnSemverTermCaretTilde.j1 kj2 t164 t153 t154 t155 t156 t157 t158 t159 t160 t161 t162)) else (laws_FnSemverTermCaretTilde.j1 kj2 true t153 t154 t155 t156 t157 t158 t159 t160 t161 t162))) = some r := H
        have A19 := Aside0.mk A190
        clear A190
        have HC20 := Aside0.mk H
        clear H
        try go_wp2
        have n0_ := Aside0.mk (blk_drew BK149.out)
        have n1_ := Aside0.mk (blk_drew BK150.out)
        have n2_ := Aside0.mk (below_drew1 HB.out)
        clear BK149
        clear BK150
        clear HB
        have BK149 := n0_
        have BK150 := n1_
        have HB := n2_
        clear n0_ n1_ n2_
        refine start_ (n := 6) (S := fun w' => w'.cell? ⟨gb149, 0, none⟩ = some (.int .u64 a0_0) ∧ w'.cell? ⟨gb149, 1, none⟩ = some (.int .u64 a0_1) ∧ w'.cell? ⟨gb149, 2, none⟩ = some (.int .u64 a0_2) ∧ w'.cell? ⟨gb149, 3, none⟩ = some (.string a0_3) ∧ w'.cell? ⟨gb149, 4, none⟩ = some (.string a0_4) ∧ w'.cell? ⟨gb150, 0, none⟩ = some (.int .u64 a1_0) ∧ w'.cell? ⟨gb150, 1, none⟩ = some (.int .u64 a1_1) ∧ w'.cell? ⟨gb150, 2, none⟩ = some (.int .u64 a1_2) ∧ w'.cell? ⟨gb150, 3, none⟩ = some (.string a1_3) ∧ w'.cell? ⟨gb150, 4, none⟩ = some (.string a1_4)) (ds := [4, 5]) #[false, false, false, false, false, false] (by kernel_rfl) rfl rfl ⟨(blk_cell BK149.out 0).trans rfl, (blk_cell BK149.out 1).trans rfl, (blk_cell BK149.out 2).trans rfl, (blk_cell BK149.out 3).trans rfl, (blk_cell BK149.out 4).trans rfl, (blk_cell BK150.out 0).trans rfl, (blk_cell BK150.out 1).trans rfl, (blk_cell BK150.out 2).trans rfl, (blk_cell BK150.out 3).trans rfl, (blk_cell BK150.out 4).trans rfl⟩ (fun hHeld => ?_)
        generalize wc.drew = w21 at BK149 BK150 HB hHeld ⊢
        refine take_ (i := 0) (N := some 15) (v := ?_) (a' := ?_) #[true, false, false, false, false, false] rfl rfl (by kernel_rfl) (fun _ _ _ h => h) (Or.inl ⟨by rfl, ?_⟩) hHeld ?_ ?_
        rotate_left
        · rintro w' ⟨s0, s1, s2, s3, s4, s5, s6, s7, s8, s9⟩
          go_simp
          with_reducible rfl
        rotate_left
        · simp only [Act.put, List.setIfInBounds_toArray, List.set_cons_zero, List.set_cons_succ, i64_w, i32_w]
          rfl
        refine take_ (i := 2) (N := some 17) (v := ?_) (a' := ?_) #[true, false, true, false, false, false] rfl rfl (by kernel_rfl) (fun _ _ _ h => h) (Or.inl ⟨by rfl, ?_⟩) hHeld ?_ ?_
        rotate_left
        · rintro w' ⟨s0, s1, s2, s3, s4, s5, s6, s7, s8, s9⟩
          go_simp
          with_reducible rfl
        rotate_left
        · simp only [Act.put, List.setIfInBounds_toArray, List.set_cons_zero, List.set_cons_succ, i64_w, i32_w]
          rfl
        refine one_ (i := 1) (N := some 16) #[true, true, true, false, false, false] rfl rfl (by kernel_rfl) (by decide) (fun K hK => ?_)
        refine goes_ Tryd.func48 (by kernel_rfl) rfl #[.agg #[.int .u64 a0_0, .int .u64 a0_1, .int .u64 a0_2, .string a0_3, .string a0_4]] (by rfl) rfl rfl (by (try simp only [List.map_toArray, List.map_cons, List.map_nil]); first | done | rfl | (simp only [List.length_drop, List.length_take]; rfl)) ?_
        with_reducible refine (spec_Bare.calls a0_0 a0_1 a0_2 a0_3 a0_4 t153 t154 t155 t156 t157 _ A18.out).mono ?_
        rintro e w22 ⟨rfl, hb⟩
        refine ⟨_, rfl, ?_⟩
        have n0_ := Aside0.mk (blk_below (g := gb149) (o := .cells #[.int .u64 a0_0, .int .u64 a0_1, .int .u64 a0_2, .string a0_3, .string a0_4] 29 (0, 0)) (by (with_reducible repeat (first | refine blk_drewN ?_ _ | refine blk_drew ?_ | refine blk_alloc ?_ _)); exact BK149.out) hb)
        have n1_ := Aside0.mk (blk_below (g := gb150) (o := .cells #[.int .u64 a1_0, .int .u64 a1_1, .int .u64 a1_2, .string a1_3, .string a1_4] 29 (0, 0)) (by (with_reducible repeat (first | refine blk_drewN ?_ _ | refine blk_drew ?_ | refine blk_alloc ?_ _)); exact BK150.out) hb)
        have n2_ := Aside0.mk (below_step (by repeat (first | (with_reducible first | exact HB.out | apply below_alloc | apply pw_below_drewN | apply below_drew1 | refine below_set ?_ GE149.out | refine below_set ?_ GE150.out) | exact HB.out)) hb)
        clear BK149
        clear BK150
        clear HB
        have BK149 := n0_
        have BK150 := n1_
        have HB := n2_
        clear n0_ n1_ n2_
        (try clear hb)
        (try clear hb2)
        (try clear hk)
        (try clear hi)
        refine hK.out _ _ ⟨(blk_cell BK149.out 0).trans rfl, (blk_cell BK149.out 1).trans rfl, (blk_cell BK149.out 2).trans rfl, (blk_cell BK149.out 3).trans rfl, (blk_cell BK149.out 4).trans rfl, (blk_cell BK150.out 0).trans rfl, (blk_cell BK150.out 1).trans rfl, (blk_cell BK150.out 2).trans rfl, (blk_cell BK150.out 3).trans rfl, (blk_cell BK150.out 4).trans rfl⟩ (fun hHeld => ?_)
        clear hK K
        refine norm_ (a' := ?_) ?_ ?_
        rotate_left
        · show Act.put _ (some 16) _ = _
          simp only [Act.put, List.setIfInBounds_toArray, List.set_cons_zero, List.set_cons_succ, i64_w, i32_w]
          rfl
        refine one_ (i := 3) (N := some 18) #[true, true, true, true, false, false] rfl rfl (by kernel_rfl) (by decide) (fun K hK => ?_)
        refine goes_ Tryd.func48 (by kernel_rfl) rfl #[.agg #[.int .u64 a1_0, .int .u64 a1_1, .int .u64 a1_2, .string a1_3, .string a1_4]] (by rfl) rfl rfl (by (try simp only [List.map_toArray, List.map_cons, List.map_nil]); first | done | rfl | (simp only [List.length_drop, List.length_take]; rfl)) ?_
        with_reducible refine (spec_Bare.calls a1_0 a1_1 a1_2 a1_3 a1_4 t158 t159 t160 t161 t162 _ A19.out).mono ?_
        rintro e w23 ⟨rfl, hb⟩
        refine ⟨_, rfl, ?_⟩
        have n0_ := Aside0.mk (blk_below (g := gb149) (o := .cells #[.int .u64 a0_0, .int .u64 a0_1, .int .u64 a0_2, .string a0_3, .string a0_4] 29 (0, 0)) (by (with_reducible repeat (first | refine blk_drewN ?_ _ | refine blk_drew ?_ | refine blk_alloc ?_ _)); exact BK149.out) hb)
        have n1_ := Aside0.mk (blk_below (g := gb150) (o := .cells #[.int .u64 a1_0, .int .u64 a1_1, .int .u64 a1_2, .string a1_3, .string a1_4] 29 (0, 0)) (by (with_reducible repeat (first | refine blk_drewN ?_ _ | refine blk_drew ?_ | refine blk_alloc ?_ _)); exact BK150.out) hb)
        have n2_ := Aside0.mk (below_step (by repeat (first | (with_reducible first | exact HB.out | apply below_alloc | apply pw_below_drewN | apply below_drew1 | refine below_set ?_ GE149.out | refine below_set ?_ GE150.out) | exact HB.out)) hb)
        clear BK149
        clear BK150
        clear HB
        have BK149 := n0_
        have BK150 := n1_
        have HB := n2_
        clear n0_ n1_ n2_
        (try clear hb)
        (try clear hb2)
        (try clear hk)
        (try clear hi)
        refine hK.out _ _ ⟨(blk_cell BK149.out 0).trans rfl, (blk_cell BK149.out 1).trans rfl, (blk_cell BK149.out 2).trans rfl, (blk_cell BK149.out 3).trans rfl, (blk_cell BK149.out 4).trans rfl, (blk_cell BK150.out 0).trans rfl, (blk_cell BK150.out 1).trans rfl, (blk_cell BK150.out 2).trans rfl, (blk_cell BK150.out 3).trans rfl, (blk_cell BK150.out 4).trans rfl⟩ (fun hHeld => ?_)
        clear hK K
        refine norm_ (a' := ?_) ?_ ?_
        rotate_left
        · show Act.put _ (some 18) _ = _
          simp only [Act.put, List.setIfInBounds_toArray, List.set_cons_zero, List.set_cons_succ, i64_w, i32_w]
          rfl
        refine last_ (i := 4) (N := none) #[true, true, true, true, true, false] rfl rfl (by kernel_rfl) (by decide) (fun K hK => ?_)
        have hs24 : w23.cell? ⟨gb149, 0, none⟩ = some (.int .u64 a0_0) := (blk_cell BK149.out 0).trans rfl
        have hfs24 := blk_frozen BK149.out 0
        have hns24_1 := NB150_149.out
        have hms24_1 := NB149_150.out
        have hs25 : w23.cell? ⟨gb149, 1, none⟩ = some (.int .u64 a0_1) := (blk_cell BK149.out 1).trans rfl
        have hfs25 := blk_frozen BK149.out 1
        have hns25_1 := NB150_149.out
        have hms25_1 := NB149_150.out
        have hs26 : w23.cell? ⟨gb149, 2, none⟩ = some (.int .u64 a0_2) := (blk_cell BK149.out 2).trans rfl
        have hfs26 := blk_frozen BK149.out 2
        have hns26_1 := NB150_149.out
        have hms26_1 := NB149_150.out
        have hs27 : w23.cell? ⟨gb149, 3, none⟩ = some (.string a0_3) := (blk_cell BK149.out 3).trans rfl
        have hfs27 := blk_frozen BK149.out 3
        have hns27_1 := NB150_149.out
        have hms27_1 := NB149_150.out
        have hs28 : w23.cell? ⟨gb149, 4, none⟩ = some (.string a0_4) := (blk_cell BK149.out 4).trans rfl
        have hfs28 := blk_frozen BK149.out 4
        have hns28_1 := NB150_149.out
        have hms28_1 := NB149_150.out
        refine skip_ (w1 := ?_) (by rfl) rfl ?_ ?_
        rotate_left
        · go_simp
          rfl
        refine hK.out _ _ ?_
        clear hK K
        refine last_ (i := 5) (N := none) #[true, true, true, true, true, true] rfl rfl (by kernel_rfl) (by decide) (fun K hK => ?_)
        have hs29 : w23.cell? ⟨gb150, 0, none⟩ = some (.int .u64 a1_0) := (blk_cell BK150.out 0).trans rfl
        have hfs29 := blk_frozen BK150.out 0
        have hns29_0 := NB149_150.out
        have hms29_0 := NB150_149.out
        have hs30 : w23.cell? ⟨gb150, 1, none⟩ = some (.int .u64 a1_1) := (blk_cell BK150.out 1).trans rfl
        have hfs30 := blk_frozen BK150.out 1
        have hns30_0 := NB149_150.out
        have hms30_0 := NB150_149.out
        have hs31 : w23.cell? ⟨gb150, 2, none⟩ = some (.int .u64 a1_2) := (blk_cell BK150.out 2).trans rfl
        have hfs31 := blk_frozen BK150.out 2
        have hns31_0 := NB149_150.out
        have hms31_0 := NB150_149.out
        have hs32 : w23.cell? ⟨gb150, 3, none⟩ = some (.string a1_3) := (blk_cell BK150.out 3).trans rfl
        have hfs32 := blk_frozen BK150.out 3
        have hns32_0 := NB149_150.out
        have hms32_0 := NB150_149.out
        have hs33 : w23.cell? ⟨gb150, 4, none⟩ = some (.string a1_4) := (blk_cell BK150.out 4).trans rfl
        have hfs33 := blk_frozen BK150.out 4
        have hns33_0 := NB149_150.out
        have hms33_0 := NB150_149.out
        refine skip_ (w1 := ?_) (by rfl) rfl ?_ ?_
        rotate_left
        · go_simp
          rfl
        refine hK.out _ _ ?_
        clear hK K
        refine done_ (by kernel_rfl) ?_
        go_upto_region 4 with (fail)
        go_cut [25] (fun v25 wc => ∃ (kq : Nat) (x25_19 : Bool), v25 = .bool x25_19 ∧ Aside0 (laws_FnSemverTermCaretTilde.j1 kq x25_19 t153 t154 t155 t156 t157 t158 t159 t160 t161 t162 = some r) ∧ Aside0 (kq ≤ kj2) ∧ Aside0 (wc.heap[gb149]? = some (.cells #[.int .u64 t153, .int .u64 t154, .int .u64 t155, .string t156, .string t157] 29 (0, 0))) ∧ Aside0 (wc.heap[gb150]? = some (.cells #[.int .u64 t158, .int .u64 t159, .int .u64 t160, .string t161, .string t162] 29 (0, 0))) ∧ Aside0 (Below w.heap.size w wc))
        case first =>
          have H := HC20.out
          clear HC20
          replace H := Option.bind_eq_some_iff.mp H
          obtain ⟨t163, A340, H⟩ := H
          replace H : (if t163 = true then ((laws_stZero.f t153 t154 t155 t156 t157).bind fun t164 => (laws_FnSemverTermCaretTilde.j1 kj2 t164 t153 t154 t155 t156 t157 t158 t159 t160 t161 t162)) else (laws_FnSemverTermCaretTilde.j1 kj2 true t153 t154 t155 t156 t157 t158 t159 t160 t161 t162)) = some r := H
          have A34 := Aside0.mk A340
          clear A340
          by_cases c35 : t163 = true
          · subst c35
            have H1 : ((laws_stZero.f t153 t154 t155 t156 t157).bind fun t164 => (laws_FnSemverTermCaretTilde.j1 kj2 t164 t153 t154 t155 t156 t157 t158 t159 t160 t161 t162)) = some r := by rw [if_pos rfl] at H; exact H
            clear H
            have H := H1
            clear H1
            replace H := Option.bind_eq_some_iff.mp H
            obtain ⟨t164, A360, H⟩ := H
            replace H : (laws_FnSemverTermCaretTilde.j1 kj2 t164 t153 t154 t155 t156 t157 t158 t159 t160 t161 t162) = some r := H
            have A36 := Aside0.mk A360
            clear A360
            have H' := Aside0.mk H
            clear H
            have hnb37 := NB149_150.out
            have hnc37 := NB150_149.out
            have hcz38_0 : w23.cell? ⟨gb149, 0, none⟩ = some (.int .u64 a0_0) := (blk_cell BK149.out 0).trans rfl
            have hcz38_1 : w23.cell? ⟨gb149, 1, none⟩ = some (.int .u64 a0_1) := (blk_cell BK149.out 1).trans rfl
            have hcz38_2 : w23.cell? ⟨gb149, 2, none⟩ = some (.int .u64 a0_2) := (blk_cell BK149.out 2).trans rfl
            have hcz38_3 : w23.cell? ⟨gb149, 3, none⟩ = some (.string a0_3) := (blk_cell BK149.out 3).trans rfl
            have hcz38_4 : w23.cell? ⟨gb149, 4, none⟩ = some (.string a0_4) := (blk_cell BK149.out 4).trans rfl
            have hfz38_0 := blk_frozen BK149.out 0
            have hfz38_1 := blk_frozen BK149.out 1
            have hfz38_2 := blk_frozen BK149.out 2
            have hfz38_3 := blk_frozen BK149.out 3
            have hfz38_4 := blk_frozen BK149.out 4
            go_wp2_with (first | ((with_reducible refine gate_callee (f := 56) rfl ?_); refine goesL_ (some 20) rfl rfl Tryd.func56 (by kernel_rfl) rfl #[.agg #[.int .u64 t153, .int .u64 t154, .int .u64 t155, .string t156, .string t157]] rfl (by (try simp only [List.map_toArray, List.map_cons, List.map_nil]); first | done | rfl | (simp only [List.length_drop, List.length_take]; rfl)) ?_; (with_reducible refine (spec_Plain.calls kj2 t153 t154 t155 t156 t157 true _ A34.out).mono ?_); rintro e w39 ⟨rfl, hb⟩; refine ⟨_, rfl, ?_⟩; have n0_ := Aside0.mk (blk_below (g := gb149) (o := .cells #[.int .u64 t153, .int .u64 t154, .int .u64 t155, .string t156, .string t157] 29 (0, 0)) (by (with_reducible repeat (first | refine blk_drewN ?_ _ | refine blk_drew ?_ | refine blk_alloc ?_ _)); refine blk_far ?_ NB149_150.out _; (with_reducible repeat (first | refine blk_drewN ?_ _ | refine blk_drew ?_ | refine blk_alloc ?_ _)); refine blk_far ?_ NB149_150.out _; (with_reducible repeat (first | refine blk_drewN ?_ _ | refine blk_drew ?_ | refine blk_alloc ?_ _)); refine blk_far ?_ NB149_150.out _; (with_reducible repeat (first | refine blk_drewN ?_ _ | refine blk_drew ?_ | refine blk_alloc ?_ _)); refine blk_far ?_ NB149_150.out _; (with_reducible repeat (first | refine blk_drewN ?_ _ | refine blk_drew ?_ | refine blk_alloc ?_ _)); refine blk_far ?_ NB149_150.out _; (with_reducible repeat (first | refine blk_drewN ?_ _ | refine blk_drew ?_ | refine blk_alloc ?_ _)); refine blk_put (cs := #[.int .u64 t153, .int .u64 t154, .int .u64 t155, .string t156, .string a0_4]) ?_ 4 _ rfl; (with_reducible repeat (first | refine blk_drewN ?_ _ | refine blk_drew ?_ | refine blk_alloc ?_ _)); refine blk_put (cs := #[.int .u64 t153, .int .u64 t154, .int .u64 t155, .string a0_3, .string a0_4]) ?_ 3 _ rfl; (with_reducible repeat (first | refine blk_drewN ?_ _ | refine blk_drew ?_ | refine blk_alloc ?_ _)); refine blk_put (cs := #[.int .u64 t153, .int .u64 t154, .int .u64 a0_2, .string a0_3, .string a0_4]) ?_ 2 _ rfl; (with_reducible repeat (first | refine blk_drewN ?_ _ | refine blk_drew ?_ | refine blk_alloc ?_ _)); refine blk_put (cs := #[.int .u64 t153, .int .u64 a0_1, .int .u64 a0_2, .string a0_3, .string a0_4]) ?_ 1 _ rfl; (with_reducible repeat (first | refine blk_drewN ?_ _ | refine blk_drew ?_ | refine blk_alloc ?_ _)); refine blk_put (cs := #[.int .u64 a0_0, .int .u64 a0_1, .int .u64 a0_2, .string a0_3, .string a0_4]) ?_ 0 _ rfl; (with_reducible repeat (first | refine blk_drewN ?_ _ | refine blk_drew ?_ | refine blk_alloc ?_ _)); exact BK149.out) hb); have n1_ := Aside0.mk (blk_below (g := gb150) (o := .cells #[.int .u64 t158, .int .u64 t159, .int .u64 t160, .string t161, .string t162] 29 (0, 0)) (by (with_reducible repeat (first | refine blk_drewN ?_ _ | refine blk_drew ?_ | refine blk_alloc ?_ _)); refine blk_put (cs := #[.int .u64 t158, .int .u64 t159, .int .u64 t160, .string t161, .string a1_4]) ?_ 4 _ rfl; (with_reducible repeat (first | refine blk_drewN ?_ _ | refine blk_drew ?_ | refine blk_alloc ?_ _)); refine blk_put (cs := #[.int .u64 t158, .int .u64 t159, .int .u64 t160, .string a1_3, .string a1_4]) ?_ 3 _ rfl; (with_reducible repeat (first | refine blk_drewN ?_ _ | refine blk_drew ?_ | refine blk_alloc ?_ _)); refine blk_put (cs := #[.int .u64 t158, .int .u64 t159, .int .u64 a1_2, .string a1_3, .string a1_4]) ?_ 2 _ rfl; (with_reducible repeat (first | refine blk_drewN ?_ _ | refine blk_drew ?_ | refine blk_alloc ?_ _)); refine blk_put (cs := #[.int .u64 t158, .int .u64 a1_1, .int .u64 a1_2, .string a1_3, .string a1_4]) ?_ 1 _ rfl; (with_reducible repeat (first | refine blk_drewN ?_ _ | refine blk_drew ?_ | refine blk_alloc ?_ _)); refine blk_put (cs := #[.int .u64 a1_0, .int .u64 a1_1, .int .u64 a1_2, .string a1_3, .string a1_4]) ?_ 0 _ rfl; (with_reducible repeat (first | refine blk_drewN ?_ _ | refine blk_drew ?_ | refine blk_alloc ?_ _)); refine blk_far ?_ NB150_149.out _; (with_reducible repeat (first | refine blk_drewN ?_ _ | refine blk_drew ?_ | refine blk_alloc ?_ _)); refine blk_far ?_ NB150_149.out _; (with_reducible repeat (first | refine blk_drewN ?_ _ | refine blk_drew ?_ | refine blk_alloc ?_ _)); refine blk_far ?_ NB150_149.out _; (with_reducible repeat (first | refine blk_drewN ?_ _ | refine blk_drew ?_ | refine blk_alloc ?_ _)); refine blk_far ?_ NB150_149.out _; (with_reducible repeat (first | refine blk_drewN ?_ _ | refine blk_drew ?_ | refine blk_alloc ?_ _)); refine blk_far ?_ NB150_149.out _; (with_reducible repeat (first | refine blk_drewN ?_ _ | refine blk_drew ?_ | refine blk_alloc ?_ _)); exact BK150.out) hb); have n2_ := Aside0.mk (below_step (by repeat (first | (with_reducible first | exact HB.out | apply below_alloc | apply pw_below_drewN | apply below_drew1 | refine below_set ?_ GE149.out | refine below_set ?_ GE150.out) | exact HB.out)) hb); clear BK149; clear BK150; clear HB; have BK149 := n0_; have BK150 := n1_; have HB := n2_; clear n0_ n1_ n2_; (try clear hb); (try clear hb2); (try clear hk); (try clear hi); have hcz40_0 : w39.cell? ⟨gb149, 0, none⟩ = some (.int .u64 t153) := (blk_cell BK149.out 0).trans rfl; have hcz40_1 : w39.cell? ⟨gb149, 1, none⟩ = some (.int .u64 t154) := (blk_cell BK149.out 1).trans rfl; have hcz40_2 : w39.cell? ⟨gb149, 2, none⟩ = some (.int .u64 t155) := (blk_cell BK149.out 2).trans rfl; have hcz40_3 : w39.cell? ⟨gb149, 3, none⟩ = some (.string t156) := (blk_cell BK149.out 3).trans rfl; have hcz40_4 : w39.cell? ⟨gb149, 4, none⟩ = some (.string t157) := (blk_cell BK149.out 4).trans rfl; have hfz40_0 := blk_frozen BK149.out 0; have hfz40_1 := blk_frozen BK149.out 1; have hfz40_2 := blk_frozen BK149.out 2; have hfz40_3 := blk_frozen BK149.out 3; have hfz40_4 := blk_frozen BK149.out 4) | (go_at_call 60; (with_reducible refine (laws_stZero.calls t153 t154 t155 t156 t157 t164 _ A36.out).mono ?_); rintro e w41 ⟨rfl, hb⟩; have n0_ := Aside0.mk (blk_below (g := gb149) (o := .cells #[.int .u64 t153, .int .u64 t154, .int .u64 t155, .string t156, .string t157] 29 (0, 0)) (by (with_reducible repeat (first | refine blk_drewN ?_ _ | refine blk_drew ?_ | refine blk_alloc ?_ _)); exact BK149.out) hb); have n1_ := Aside0.mk (blk_below (g := gb150) (o := .cells #[.int .u64 t158, .int .u64 t159, .int .u64 t160, .string t161, .string t162] 29 (0, 0)) (by (with_reducible repeat (first | refine blk_drewN ?_ _ | refine blk_drew ?_ | refine blk_alloc ?_ _)); exact BK150.out) hb); have n2_ := Aside0.mk (below_step (by repeat (first | (with_reducible first | exact HB.out | apply below_alloc | apply pw_below_drewN | apply below_drew1 | refine below_set ?_ GE149.out | refine below_set ?_ GE150.out) | exact HB.out)) hb); clear BK149; clear BK150; clear HB; have BK149 := n0_; have BK150 := n1_; have HB := n2_; clear n0_ n1_ n2_; (try clear hb); (try clear hb2); (try clear hk); (try clear hi)))
            go_meet
            case rel => exact ⟨_, (t164), (by first | rfl | (simp; done) | (simp [*]; done)), H', ⟨by have := HJ2.out; first | omega | exact Nat.le_refl _⟩, ⟨by (with_reducible repeat (first | refine blk_drewN ?_ _ | refine blk_drew ?_ | refine blk_alloc ?_ _)); exact BK149.out⟩, ⟨by (with_reducible repeat (first | refine blk_drewN ?_ _ | refine blk_drew ?_ | refine blk_alloc ?_ _)); exact BK150.out⟩, ⟨by repeat (first | (with_reducible first | exact HB.out | apply below_alloc | apply pw_below_drewN | apply below_drew1 | refine below_set ?_ GE149.out | refine below_set ?_ GE150.out) | exact HB.out)⟩⟩
          · replace c35 := Bool.eq_false_iff.mpr c35
            subst c35
            have H1 : (laws_FnSemverTermCaretTilde.j1 kj2 true t153 t154 t155 t156 t157 t158 t159 t160 t161 t162) = some r := by rw [if_neg (show ¬ (false = true) by decide)] at H; exact H
            clear H
            have H := H1
            clear H1
            have H' := Aside0.mk H
            clear H
            have hnb42 := NB149_150.out
            have hnc42 := NB150_149.out
            have hcz43_0 : w23.cell? ⟨gb149, 0, none⟩ = some (.int .u64 a0_0) := (blk_cell BK149.out 0).trans rfl
            have hcz43_1 : w23.cell? ⟨gb149, 1, none⟩ = some (.int .u64 a0_1) := (blk_cell BK149.out 1).trans rfl
            have hcz43_2 : w23.cell? ⟨gb149, 2, none⟩ = some (.int .u64 a0_2) := (blk_cell BK149.out 2).trans rfl
            have hcz43_3 : w23.cell? ⟨gb149, 3, none⟩ = some (.string a0_3) := (blk_cell BK149.out 3).trans rfl
            have hcz43_4 : w23.cell? ⟨gb149, 4, none⟩ = some (.string a0_4) := (blk_cell BK149.out 4).trans rfl
            have hfz43_0 := blk_frozen BK149.out 0
            have hfz43_1 := blk_frozen BK149.out 1
            have hfz43_2 := blk_frozen BK149.out 2
            have hfz43_3 := blk_frozen BK149.out 3
            have hfz43_4 := blk_frozen BK149.out 4
            go_wp2_with (first | ((with_reducible refine gate_callee (f := 56) rfl ?_); refine goesL_ (some 20) rfl rfl Tryd.func56 (by kernel_rfl) rfl #[.agg #[.int .u64 t153, .int .u64 t154, .int .u64 t155, .string t156, .string t157]] rfl (by (try simp only [List.map_toArray, List.map_cons, List.map_nil]); first | done | rfl | (simp only [List.length_drop, List.length_take]; rfl)) ?_; (with_reducible refine (spec_Plain.calls kj2 t153 t154 t155 t156 t157 false _ A34.out).mono ?_); rintro e w44 ⟨rfl, hb⟩; refine ⟨_, rfl, ?_⟩; have n0_ := Aside0.mk (blk_below (g := gb149) (o := .cells #[.int .u64 t153, .int .u64 t154, .int .u64 t155, .string t156, .string t157] 29 (0, 0)) (by (with_reducible repeat (first | refine blk_drewN ?_ _ | refine blk_drew ?_ | refine blk_alloc ?_ _)); refine blk_far ?_ NB149_150.out _; (with_reducible repeat (first | refine blk_drewN ?_ _ | refine blk_drew ?_ | refine blk_alloc ?_ _)); refine blk_far ?_ NB149_150.out _; (with_reducible repeat (first | refine blk_drewN ?_ _ | refine blk_drew ?_ | refine blk_alloc ?_ _)); refine blk_far ?_ NB149_150.out _; (with_reducible repeat (first | refine blk_drewN ?_ _ | refine blk_drew ?_ | refine blk_alloc ?_ _)); refine blk_far ?_ NB149_150.out _; (with_reducible repeat (first | refine blk_drewN ?_ _ | refine blk_drew ?_ | refine blk_alloc ?_ _)); refine blk_far ?_ NB149_150.out _; (with_reducible repeat (first | refine blk_drewN ?_ _ | refine blk_drew ?_ | refine blk_alloc ?_ _)); refine blk_put (cs := #[.int .u64 t153, .int .u64 t154, .int .u64 t155, .string t156, .string a0_4]) ?_ 4 _ rfl; (with_reducible repeat (first | refine blk_drewN ?_ _ | refine blk_drew ?_ | refine blk_alloc ?_ _)); refine blk_put (cs := #[.int .u64 t153, .int .u64 t154, .int .u64 t155, .string a0_3, .string a0_4]) ?_ 3 _ rfl; (with_reducible repeat (first | refine blk_drewN ?_ _ | refine blk_drew ?_ | refine blk_alloc ?_ _)); refine blk_put (cs := #[.int .u64 t153, .int .u64 t154, .int .u64 a0_2, .string a0_3, .string a0_4]) ?_ 2 _ rfl; (with_reducible repeat (first | refine blk_drewN ?_ _ | refine blk_drew ?_ | refine blk_alloc ?_ _)); refine blk_put (cs := #[.int .u64 t153, .int .u64 a0_1, .int .u64 a0_2, .string a0_3, .string a0_4]) ?_ 1 _ rfl; (with_reducible repeat (first | refine blk_drewN ?_ _ | refine blk_drew ?_ | refine blk_alloc ?_ _)); refine blk_put (cs := #[.int .u64 a0_0, .int .u64 a0_1, .int .u64 a0_2, .string a0_3, .string a0_4]) ?_ 0 _ rfl; (with_reducible repeat (first | refine blk_drewN ?_ _ | refine blk_drew ?_ | refine blk_alloc ?_ _)); exact BK149.out) hb); have n1_ := Aside0.mk (blk_below (g := gb150) (o := .cells #[.int .u64 t158, .int .u64 t159, .int .u64 t160, .string t161, .string t162] 29 (0, 0)) (by (with_reducible repeat (first | refine blk_drewN ?_ _ | refine blk_drew ?_ | refine blk_alloc ?_ _)); refine blk_put (cs := #[.int .u64 t158, .int .u64 t159, .int .u64 t160, .string t161, .string a1_4]) ?_ 4 _ rfl; (with_reducible repeat (first | refine blk_drewN ?_ _ | refine blk_drew ?_ | refine blk_alloc ?_ _)); refine blk_put (cs := #[.int .u64 t158, .int .u64 t159, .int .u64 t160, .string a1_3, .string a1_4]) ?_ 3 _ rfl; (with_reducible repeat (first | refine blk_drewN ?_ _ | refine blk_drew ?_ | refine blk_alloc ?_ _)); refine blk_put (cs := #[.int .u64 t158, .int .u64 t159, .int .u64 a1_2, .string a1_3, .string a1_4]) ?_ 2 _ rfl; (with_reducible repeat (first | refine blk_drewN ?_ _ | refine blk_drew ?_ | refine blk_alloc ?_ _)); refine blk_put (cs := #[.int .u64 t158, .int .u64 a1_1, .int .u64 a1_2, .string a1_3, .string a1_4]) ?_ 1 _ rfl; (with_reducible repeat (first | refine blk_drewN ?_ _ | refine blk_drew ?_ | refine blk_alloc ?_ _)); refine blk_put (cs := #[.int .u64 a1_0, .int .u64 a1_1, .int .u64 a1_2, .string a1_3, .string a1_4]) ?_ 0 _ rfl; (with_reducible repeat (first | refine blk_drewN ?_ _ | refine blk_drew ?_ | refine blk_alloc ?_ _)); refine blk_far ?_ NB150_149.out _; (with_reducible repeat (first | refine blk_drewN ?_ _ | refine blk_drew ?_ | refine blk_alloc ?_ _)); refine blk_far ?_ NB150_149.out _; (with_reducible repeat (first | refine blk_drewN ?_ _ | refine blk_drew ?_ | refine blk_alloc ?_ _)); refine blk_far ?_ NB150_149.out _; (with_reducible repeat (first | refine blk_drewN ?_ _ | refine blk_drew ?_ | refine blk_alloc ?_ _)); refine blk_far ?_ NB150_149.out _; (with_reducible repeat (first | refine blk_drewN ?_ _ | refine blk_drew ?_ | refine blk_alloc ?_ _)); refine blk_far ?_ NB150_149.out _; (with_reducible repeat (first | refine blk_drewN ?_ _ | refine blk_drew ?_ | refine blk_alloc ?_ _)); exact BK150.out) hb); have n2_ := Aside0.mk (below_step (by repeat (first | (with_reducible first | exact HB.out | apply below_alloc | apply pw_below_drewN | apply below_drew1 | refine below_set ?_ GE149.out | refine below_set ?_ GE150.out) | exact HB.out)) hb); clear BK149; clear BK150; clear HB; have BK149 := n0_; have BK150 := n1_; have HB := n2_; clear n0_ n1_ n2_; (try clear hb); (try clear hb2); (try clear hk); (try clear hi)))
            go_meet
            case rel => exact ⟨_, (true), (by first | rfl | (simp; done) | (simp [*]; done)), H', ⟨by have := HJ2.out; first | omega | exact Nat.le_refl _⟩, ⟨by (with_reducible repeat (first | refine blk_drewN ?_ _ | refine blk_drew ?_ | refine blk_alloc ?_ _)); exact BK149.out⟩, ⟨by (with_reducible repeat (first | refine blk_drewN ?_ _ | refine blk_drew ?_ | refine blk_alloc ?_ _)); exact BK150.out⟩, ⟨by repeat (first | (with_reducible first | exact HB.out | apply below_alloc | apply pw_below_drewN | apply below_drew1 | refine below_set ?_ GE149.out | refine below_set ?_ GE150.out) | exact HB.out)⟩⟩
        case rest =>
          clear HC20
          try clear c1
          try clear c2
          try clear p2
          try clear c3
          try clear c4
          try clear c5
          try clear c7
          try clear c9
          try clear c14
          try clear c15
          try clear c17
          try clear c25
          try clear c35
          try clear c37
          try clear c42
          try clear hcz10_0
          try clear hcz10_1
          try clear hcz10_2
          try clear hcz10_3
          try clear hcz10_4
          try clear hcz12_0
          try clear hcz12_1
          try clear hcz12_2
          try clear hcz12_3
          try clear hcz12_4
          try clear hcz15_0
          try clear hcz15_1
          try clear hcz15_2
          try clear hcz15_3
          try clear hcz15_4
          try clear hcz38_0
          try clear hcz38_1
          try clear hcz38_2
          try clear hcz38_3
          try clear hcz38_4
          try clear hcz40_0
          try clear hcz40_1
          try clear hcz40_2
          try clear hcz40_3
          try clear hcz40_4
          try clear hcz43_0
          try clear hcz43_1
          try clear hcz43_2
          try clear hcz43_3
          try clear hcz43_4
          try clear hfz10_0
          try clear hfz10_1
          try clear hfz10_2
          try clear hfz10_3
          try clear hfz10_4
          try clear hfz12_0
          try clear hfz12_1
          try clear hfz12_2
          try clear hfz12_3
          try clear hfz12_4
          try clear hfz15_0
          try clear hfz15_1
          try clear hfz15_2
          try clear hfz15_3
          try clear hfz15_4
          try clear hfz38_0
          try clear hfz38_1
          try clear hfz38_2
          try clear hfz38_3
          try clear hfz38_4
          try clear hfz40_0
          try clear hfz40_1
          try clear hfz40_2
          try clear hfz40_3
          try clear hfz40_4
          try clear hfz43_0
          try clear hfz43_1
          try clear hfz43_2
          try clear hfz43_3
          try clear hfz43_4
          try clear p2
          obtain ⟨kq, x25_19, rfl, HA, HJ19, BK149, BK150, HB⟩ := hcut
          cases kq with
          | zero => exact absurd HA.out (by simp [laws_FnSemverTermCaretTilde.j1])
          | succ kj19 =>
            have H := HA.out
            clear HA
            simp only [laws_FnSemverTermCaretTilde.j1] at H
            by_cases c45 : x25_19 = true
            · subst c45
              have H1 : (some true) = some r := by rw [if_pos rfl] at H; exact H
              clear H
              have H := H1
              clear H1
              obtain rfl := Option.some.inj H
              go_wp2
              go_ret
              exact ⟨by first | rfl | (simp [errW_none, errW_some] <;> rfl) | (simp [*, errW_none, errW_some] <;> rfl), by repeat (first | (with_reducible first | exact HB.out | apply below_alloc | apply pw_below_drewN | apply below_drew1 | refine below_set ?_ GE149.out | refine below_set ?_ GE150.out) | exact HB.out)⟩
            · replace c45 := Bool.eq_false_iff.mpr c45
              subst c45
              have H1 : ((laws_stHolds.f 7 t153 t154 t155 t156 t157 3 t158 t159 t160 t161 t162).bind fun t165 => ((laws_stHolds.f 6 t153 t154 t155 t156 t157 3 t158 t159 t160 t161 t162).bind fun t166 => (if t153 > 0 then (if t166 = true then (if (t165 == true) = true then ((laws_stHolds.f 7 t153 t154 t155 t156 t157 3 t153 t154 t155 t156 t157).bind fun t167 => (some t167)) else (some false)) else ((spec_IncMinor.f t153 t154 t155 t156 t157).bind fun bt168 => ((laws_stHolds.f 7 bt168.1 bt168.2.1 bt168.2.2.1 bt168.2.2.2.1 bt168.2.2.2.2 3 t158 t159 t160 t161 t162).bind fun t173 => (if (t165 == t173) = true then ((laws_stHolds.f 7 t153 t154 t155 t156 t157 3 t153 t154 t155 t156 t157).bind fun t174 => (some t174)) else (some false))))) else (if t154 > 0 then (if (t165 == t166) = true then ((laws_stHolds.f 7 t153 t154 t155 t156 t157 3 t153 t154 t155 t156 t157).bind fun t175 => (some t175)) else (some false)) else ((laws_stHolds.f 0 t153 t154 t155 t156 t157 3 t158 t159 t160 t161 t162).bind fun t176 => (if (t165 == t176) = true then ((laws_stHolds.f 7 t153 t154 t155 t156 t157 3 t153 t154 t155 t156 t157).bind fun t177 => (some t177)) else (some false))))))) = some r := by rw [if_neg (show ¬ (false = true) by decide)] at H; exact H
              clear H
              have H := H1
              clear H1
              replace H := Option.bind_eq_some_iff.mp H
              obtain ⟨t165, A460, H⟩ := H
              replace H : ((laws_stHolds.f 6 t153 t154 t155 t156 t157 3 t158 t159 t160 t161 t162).bind fun t166 => (if t153 > 0 then (if t166 = true then (if (t165 == true) = true then ((laws_stHolds.f 7 t153 t154 t155 t156 t157 3 t153 t154 t155 t156 t157).bind fun t167 => (some t167)) else (some false)) else ((spec_IncMinor.f t153 t154 t155 t156 t157).bind fun bt168 => ((laws_stHolds.f 7 bt168.1 bt168.2.1 bt168.2.2.1 bt168.2.2.2.1 bt168.2.2.2.2 3 t158 t159 t160 t161 t162).bind fun t173 => (if (t165 == t173) = true then ((laws_stHolds.f 7 t153 t154 t155 t156 t157 3 t153 t154 t155 t156 t157).bind fun t174 => (some t174)) else (some false))))) else (if t154 > 0 then (if (t165 == t166) = true then ((laws_stHolds.f 7 t153 t154 t155 t156 t157 3 t153 t154 t155 t156 t157).bind fun t175 => (some t175)) else (some false)) else ((laws_stHolds.f 0 t153 t154 t155 t156 t157 3 t158 t159 t160 t161 t162).bind fun t176 => (if (t165 == t176) = true then ((laws_stHolds.f 7 t153 t154 t155 t156 t157 3 t153 t154 t155 t156 t157).bind fun t177 => (some t177)) else (some false)))))) = some r := H
              have A46 := Aside0.mk A460
              clear A460
              replace H := Option.bind_eq_some_iff.mp H
              obtain ⟨t166, A470, H⟩ := H
              replace H : (if t153 > 0 then (if t166 = true then (if (t165 == true) = true then ((laws_stHolds.f 7 t153 t154 t155 t156 t157 3 t153 t154 t155 t156 t157).bind fun t167 => (some t167)) else (some false)) else ((spec_IncMinor.f t153 t154 t155 t156 t157).bind fun bt168 => ((laws_stHolds.f 7 bt168.1 bt168.2.1 bt168.2.2.1 bt168.2.2.2.1 bt168.2.2.2.2 3 t158 t159 t160 t161 t162).bind fun t173 => (if (t165 == t173) = true then ((laws_stHolds.f 7 t153 t154 t155 t156 t157 3 t153 t154 t155 t156 t157).bind fun t174 => (some t174)) else (some false))))) else (if t154 > 0 then (if (t165 == t166) = true then ((laws_stHolds.f 7 t153 t154 t155 t156 t157 3 t153 t154 t155 t156 t157).bind fun t175 => (some t175)) else (some false)) else ((laws_stHolds.f 0 t153 t154 t155 t156 t157 3 t158 t159 t160 t161 t162).bind fun t176 => (if (t165 == t176) = true then ((laws_stHolds.f 7 t153 t154 t155 t156 t157 3 t153 t154 t155 t156 t157).bind fun t177 => (some t177)) else (some false))))) = some r := H
              have A47 := Aside0.mk A470
              clear A470
              by_cases c48 : t153 > 0
              · rw [if_pos c48] at H
                have c48b0 : decide (0 < t153) = true := decide_eq_true c48
                clear c48
                by_cases c49 : t166 = true
                · subst c49
                  have H1 : (if (t165 == true) = true then ((laws_stHolds.f 7 t153 t154 t155 t156 t157 3 t153 t154 t155 t156 t157).bind fun t167 => (some t167)) else (some false)) = some r := by rw [if_pos rfl] at H; exact H
                  clear H
                  have H := H1
                  clear H1
                  by_cases c50 : (t165 == true) = true
                  · rw [if_pos c50] at H
                    have c50b0 : (t165 == true) = true := c50
                    (try (have c50b1 : decide (t165 = true) = true := by simpa using c50))
                    (try (have c50b2 : (t165 == true) = true := by simpa using c50))
                    clear c50
                    replace H := Option.bind_eq_some_iff.mp H
                    obtain ⟨t167, A510, H⟩ := H
                    replace H : (some t167) = some r := H
                    have A51 := Aside0.mk A510
                    clear A510
                    obtain rfl := Option.some.inj H
                    try go_wp2
                    have n0_ := Aside0.mk (blk_drew BK149.out)
                    have n1_ := Aside0.mk (blk_drew BK150.out)
                    have n2_ := Aside0.mk (below_drew1 HB.out)
                    clear BK149
                    clear BK150
                    clear HB
                    have BK149 := n0_
                    have BK150 := n1_
                    have HB := n2_
                    clear n0_ n1_ n2_
                    refine start_ (n := 8) (S := fun w' => w'.cell? ⟨gb149, 0, none⟩ = some (.int .u64 t153) ∧ w'.cell? ⟨gb149, 1, none⟩ = some (.int .u64 t154) ∧ w'.cell? ⟨gb149, 2, none⟩ = some (.int .u64 t155) ∧ w'.cell? ⟨gb149, 3, none⟩ = some (.string t156) ∧ w'.cell? ⟨gb149, 4, none⟩ = some (.string t157) ∧ w'.cell? ⟨gb150, 0, none⟩ = some (.int .u64 t158) ∧ w'.cell? ⟨gb150, 1, none⟩ = some (.int .u64 t159) ∧ w'.cell? ⟨gb150, 2, none⟩ = some (.int .u64 t160) ∧ w'.cell? ⟨gb150, 3, none⟩ = some (.string t161) ∧ w'.cell? ⟨gb150, 4, none⟩ = some (.string t162)) (ds := []) #[false, false, false, false, false, false, false, false] (by kernel_rfl) rfl rfl ⟨(blk_cell BK149.out 0).trans rfl, (blk_cell BK149.out 1).trans rfl, (blk_cell BK149.out 2).trans rfl, (blk_cell BK149.out 3).trans rfl, (blk_cell BK149.out 4).trans rfl, (blk_cell BK150.out 0).trans rfl, (blk_cell BK150.out 1).trans rfl, (blk_cell BK150.out 2).trans rfl, (blk_cell BK150.out 3).trans rfl, (blk_cell BK150.out 4).trans rfl⟩ (fun hHeld => ?_); refine with_tabW laws_FnSemverTermCaretTilde.tab6 laws_FnSemverTermCaretTilde.bits6 (fun HT_ HW_ => ?_)
                    generalize wc.drew = w52 at BK149 BK150 HB hHeld ⊢
                    refine take_ (i := 0) (N := some 26) (v := ?_) (a' := ?_) #[true, false, false, false, false, false, false, false] rfl rfl (take_ofW HT_.out HW_.out (by kernel_rfl)) (fun _ _ _ h => h) (Or.inl ⟨by rfl, ?_⟩) hHeld ?_ ?_
                    rotate_left
                    · rintro w' ⟨s0, s1, s2, s3, s4, s5, s6, s7, s8, s9⟩
                      go_simp
                      with_reducible rfl
                    rotate_left
                    · simp only [Act.put, List.setIfInBounds_toArray, List.set_cons_zero, List.set_cons_succ, i64_w, i32_w]
                      rfl
                    refine take_ (i := 1) (N := some 27) (v := ?_) (a' := ?_) #[true, true, false, false, false, false, false, false] rfl rfl (take_ofW HT_.out HW_.out (by kernel_rfl)) (fun _ _ _ h => h) (Or.inl ⟨by rfl, ?_⟩) hHeld ?_ ?_
                    rotate_left
                    · rintro w' ⟨s0, s1, s2, s3, s4, s5, s6, s7, s8, s9⟩
                      go_simp
                      with_reducible rfl
                    rotate_left
                    · simp only [Act.put, List.setIfInBounds_toArray, List.set_cons_zero, List.set_cons_succ, i64_w, i32_w]
                      rfl
                    refine take_ (i := 3) (N := some 29) (v := ?_) (a' := ?_) #[true, true, false, true, false, false, false, false] rfl rfl (take_ofW HT_.out HW_.out (by kernel_rfl)) (fun _ _ _ h => h) (Or.inl ⟨by rfl, ?_⟩) hHeld ?_ ?_
                    rotate_left
                    · rintro w' ⟨s0, s1, s2, s3, s4, s5, s6, s7, s8, s9⟩
                      go_simp
                      with_reducible rfl
                    rotate_left
                    · simp only [Act.put, List.setIfInBounds_toArray, List.set_cons_zero, List.set_cons_succ, i64_w, i32_w]
                      rfl
                    refine take_ (i := 4) (N := some 30) (v := ?_) (a' := ?_) #[true, true, false, true, true, false, false, false] rfl rfl (take_ofW HT_.out HW_.out (by kernel_rfl)) (fun _ _ _ h => h) (Or.inl ⟨by rfl, ?_⟩) hHeld ?_ ?_
                    rotate_left
                    · rintro w' ⟨s0, s1, s2, s3, s4, s5, s6, s7, s8, s9⟩
                      go_simp
                      with_reducible rfl
                    rotate_left
                    · simp only [Act.put, List.setIfInBounds_toArray, List.set_cons_zero, List.set_cons_succ, i64_w, i32_w]
                      rfl
                    refine one_ (i := 2) (N := some 28) #[true, true, true, true, true, false, false, false] rfl rfl (one_of HT_.out (by kernel_rfl)) (by decide) (fun K hK => ?_)
                    refine goes_ Tryd.func61 (by kernel_rfl) rfl #[.int .i64 7, .agg #[.int .u64 t153, .int .u64 t154, .int .u64 t155, .string t156, .string t157], .int .i64 3, .agg #[.int .u64 t158, .int .u64 t159, .int .u64 t160, .string t161, .string t162]] (by rfl) rfl rfl (by (try simp only [List.map_toArray, List.map_cons, List.map_nil]); first | done | rfl | (simp only [List.length_drop, List.length_take]; rfl)) ?_
                    with_reducible refine (laws_stHolds.calls 7 t153 t154 t155 t156 t157 3 t158 t159 t160 t161 t162 t165 _ ?gl6 A46.out).mono ?_
                    case gl6 => (first | exact HG.out | exact Hand.Gl.below HG.out (by repeat (first | (with_reducible first | exact HB.out | apply below_alloc | apply pw_below_drewN | apply below_drew1) | exact HB.out)))
                    rintro e w53 ⟨rfl, hb⟩
                    refine ⟨_, rfl, ?_⟩
                    have n0_ := Aside0.mk (blk_below (g := gb149) (o := .cells #[.int .u64 t153, .int .u64 t154, .int .u64 t155, .string t156, .string t157] 29 (0, 0)) (by (with_reducible repeat (first | refine blk_drewN ?_ _ | refine blk_drew ?_ | refine blk_alloc ?_ _)); exact BK149.out) hb)
                    have n1_ := Aside0.mk (blk_below (g := gb150) (o := .cells #[.int .u64 t158, .int .u64 t159, .int .u64 t160, .string t161, .string t162] 29 (0, 0)) (by (with_reducible repeat (first | refine blk_drewN ?_ _ | refine blk_drew ?_ | refine blk_alloc ?_ _)); exact BK150.out) hb)
                    have n2_ := Aside0.mk (below_step (by repeat (first | (with_reducible first | exact HB.out | apply below_alloc | apply pw_below_drewN | apply below_drew1 | refine below_set ?_ GE149.out | refine below_set ?_ GE150.out) | exact HB.out)) hb)
                    clear BK149
                    clear BK150
                    clear HB
                    have BK149 := n0_
                    have BK150 := n1_
                    have HB := n2_
                    clear n0_ n1_ n2_
                    (try clear hb)
                    (try clear hb2)
                    (try clear hk)
                    (try clear hi)
                    refine hK.out _ _ ⟨(blk_cell BK149.out 0).trans rfl, (blk_cell BK149.out 1).trans rfl, (blk_cell BK149.out 2).trans rfl, (blk_cell BK149.out 3).trans rfl, (blk_cell BK149.out 4).trans rfl, (blk_cell BK150.out 0).trans rfl, (blk_cell BK150.out 1).trans rfl, (blk_cell BK150.out 2).trans rfl, (blk_cell BK150.out 3).trans rfl, (blk_cell BK150.out 4).trans rfl⟩ (fun hHeld => ?_)
                    clear hK K
                    refine norm_ (a' := ?_) ?_ ?_
                    rotate_left
                    · show Act.put _ (some 28) _ = _
                      simp only [Act.put, List.setIfInBounds_toArray, List.set_cons_zero, List.set_cons_succ, i64_w, i32_w]
                      rfl
                    refine one_ (i := 5) (N := some 31) #[true, true, true, true, true, true, false, false] rfl rfl (one_of HT_.out (by kernel_rfl)) (by decide) (fun K hK => ?_)
                    refine goes_ Tryd.func61 (by kernel_rfl) rfl #[.int .i64 6, .agg #[.int .u64 t153, .int .u64 t154, .int .u64 t155, .string t156, .string t157], .int .i64 3, .agg #[.int .u64 t158, .int .u64 t159, .int .u64 t160, .string t161, .string t162]] (by rfl) rfl rfl (by (try simp only [List.map_toArray, List.map_cons, List.map_nil]); first | done | rfl | (simp only [List.length_drop, List.length_take]; rfl)) ?_
                    with_reducible refine (laws_stHolds.calls 6 t153 t154 t155 t156 t157 3 t158 t159 t160 t161 t162 true _ ?gl7 A47.out).mono ?_
                    case gl7 => (first | exact HG.out | exact Hand.Gl.below HG.out (by repeat (first | (with_reducible first | exact HB.out | apply below_alloc | apply pw_below_drewN | apply below_drew1) | exact HB.out)))
                    rintro e w54 ⟨rfl, hb⟩
                    refine ⟨_, rfl, ?_⟩
                    have n0_ := Aside0.mk (blk_below (g := gb149) (o := .cells #[.int .u64 t153, .int .u64 t154, .int .u64 t155, .string t156, .string t157] 29 (0, 0)) (by (with_reducible repeat (first | refine blk_drewN ?_ _ | refine blk_drew ?_ | refine blk_alloc ?_ _)); exact BK149.out) hb)
                    have n1_ := Aside0.mk (blk_below (g := gb150) (o := .cells #[.int .u64 t158, .int .u64 t159, .int .u64 t160, .string t161, .string t162] 29 (0, 0)) (by (with_reducible repeat (first | refine blk_drewN ?_ _ | refine blk_drew ?_ | refine blk_alloc ?_ _)); exact BK150.out) hb)
                    have n2_ := Aside0.mk (below_step (by repeat (first | (with_reducible first | exact HB.out | apply below_alloc | apply pw_below_drewN | apply below_drew1 | refine below_set ?_ GE149.out | refine below_set ?_ GE150.out) | exact HB.out)) hb)
                    clear BK149
                    clear BK150
                    clear HB
                    have BK149 := n0_
                    have BK150 := n1_
                    have HB := n2_
                    clear n0_ n1_ n2_
                    (try clear hb)
                    (try clear hb2)
                    (try clear hk)
                    (try clear hi)
                    refine hK.out _ _ ⟨(blk_cell BK149.out 0).trans rfl, (blk_cell BK149.out 1).trans rfl, (blk_cell BK149.out 2).trans rfl, (blk_cell BK149.out 3).trans rfl, (blk_cell BK149.out 4).trans rfl, (blk_cell BK150.out 0).trans rfl, (blk_cell BK150.out 1).trans rfl, (blk_cell BK150.out 2).trans rfl, (blk_cell BK150.out 3).trans rfl, (blk_cell BK150.out 4).trans rfl⟩ (fun hHeld => ?_)
                    clear hK K
                    refine norm_ (a' := ?_) ?_ ?_
                    rotate_left
                    · show Act.put _ (some 31) _ = _
                      simp only [Act.put, List.setIfInBounds_toArray, List.set_cons_zero, List.set_cons_succ, i64_w, i32_w]
                      rfl
                    refine pure_ (i := 6) (N := some 5) (v := ?_) (a' := ?_) #[true, true, true, true, true, true, true, false] rfl rfl (any_of HT_.out (by kernel_rfl)) (fun _ _ _ h => h) (Or.inl ⟨by rfl, ?_⟩) ?_ ?_
                    rotate_left
                    · intro w'
                      go_simp
                      with_reducible rfl
                    rotate_left
                    · simp only [Act.put, List.setIfInBounds_toArray, List.set_cons_zero, List.set_cons_succ, i64_w, i32_w]
                      rfl
                    refine pure_ (i := 7) (N := some 6) (v := ?_) (a' := ?_) #[true, true, true, true, true, true, true, true] rfl rfl (any_of HT_.out (by kernel_rfl)) (fun _ _ _ h => h) (Or.inl ⟨by rfl, ?_⟩) ?_ ?_
                    rotate_left
                    · intro w'
                      go_simp
                      with_reducible rfl
                    rotate_left
                    · simp only [Act.put, List.setIfInBounds_toArray, List.set_cons_zero, List.set_cons_succ, i64_w, i32_w]
                      rfl
                    refine done_ (done_of HT_.out (by kernel_rfl)) ?_
                    have hnb55 := NB149_150.out
                    have hnc55 := NB150_149.out
                    have hcz56_0 : w54.cell? ⟨gb149, 0, none⟩ = some (.int .u64 t153) := (blk_cell BK149.out 0).trans rfl
                    have hcz56_1 : w54.cell? ⟨gb149, 1, none⟩ = some (.int .u64 t154) := (blk_cell BK149.out 1).trans rfl
                    have hcz56_2 : w54.cell? ⟨gb149, 2, none⟩ = some (.int .u64 t155) := (blk_cell BK149.out 2).trans rfl
                    have hcz56_3 : w54.cell? ⟨gb149, 3, none⟩ = some (.string t156) := (blk_cell BK149.out 3).trans rfl
                    have hcz56_4 : w54.cell? ⟨gb149, 4, none⟩ = some (.string t157) := (blk_cell BK149.out 4).trans rfl
                    have hfz56_0 := blk_frozen BK149.out 0
                    have hfz56_1 := blk_frozen BK149.out 1
                    have hfz56_2 := blk_frozen BK149.out 2
                    have hfz56_3 := blk_frozen BK149.out 3
                    have hfz56_4 := blk_frozen BK149.out 4
                    try go_wp2
                    have n0_ := Aside0.mk (blk_drew BK149.out)
                    have n1_ := Aside0.mk (blk_drew BK150.out)
                    have n2_ := Aside0.mk (below_drew1 HB.out)
                    clear BK149
                    clear BK150
                    clear HB
                    have BK149 := n0_
                    have BK150 := n1_
                    have HB := n2_
                    clear n0_ n1_ n2_
                    refine start_ (n := 15) (S := fun w' => w'.cell? ⟨gb149, 0, none⟩ = some (.int .u64 t153) ∧ w'.cell? ⟨gb149, 1, none⟩ = some (.int .u64 t154) ∧ w'.cell? ⟨gb149, 2, none⟩ = some (.int .u64 t155) ∧ w'.cell? ⟨gb149, 3, none⟩ = some (.string t156) ∧ w'.cell? ⟨gb149, 4, none⟩ = some (.string t157)) (ds := []) #[false, false, false, false, false, false, false, false, false, false, false, false, false, false, false] (by kernel_rfl) rfl rfl ⟨(blk_cell BK149.out 0).trans rfl, (blk_cell BK149.out 1).trans rfl, (blk_cell BK149.out 2).trans rfl, (blk_cell BK149.out 3).trans rfl, (blk_cell BK149.out 4).trans rfl⟩ (fun hHeld => ?_); refine with_tabW laws_FnSemverTermCaretTilde.tab8 laws_FnSemverTermCaretTilde.bits8 (fun HT_ HW_ => ?_)
                    generalize w54.drew = w57 at BK149 BK150 HB hHeld ⊢
                    refine pure_ (i := 0) (N := some 36) (v := ?_) (a' := ?_) #[true, false, false, false, false, false, false, false, false, false, false, false, false, false, false] rfl rfl (any_of HT_.out (by kernel_rfl)) (fun _ _ _ h => h) (Or.inl ⟨by rfl, ?_⟩) ?_ ?_
                    rotate_left
                    · intro w'
                      go_simp
                      with_reducible rfl
                    rotate_left
                    · simp only [Act.put, List.setIfInBounds_toArray, List.set_cons_zero, List.set_cons_succ, i64_w, i32_w]
                      rfl
                    refine pure_ (i := 1) (N := some 37) (v := ?_) (a' := ?_) #[true, true, false, false, false, false, false, false, false, false, false, false, false, false, false] rfl rfl (any_of HT_.out (by kernel_rfl)) (fun _ _ _ h => h) (Or.inl ⟨by rfl, ?_⟩) ?_ ?_
                    rotate_left
                    · intro w'
                      go_simp
                      with_reducible rfl
                    rotate_left
                    · simp only [Act.put, List.setIfInBounds_toArray, List.set_cons_zero, List.set_cons_succ, i64_w, i32_w]
                      rfl
                    refine pure_ (i := 2) (N := some 38) (v := ?_) (a' := ?_) #[true, true, true, false, false, false, false, false, false, false, false, false, false, false, false] rfl rfl (any_of HT_.out (by kernel_rfl)) (fun _ _ _ h => h) (Or.inl ⟨by rfl, ?_⟩) ?_ ?_
                    rotate_left
                    · intro w'
                      go_simp
                      with_reducible rfl
                    rotate_left
                    · simp only [Act.put, List.setIfInBounds_toArray, List.set_cons_zero, List.set_cons_succ, i64_w, i32_w]
                      rfl
                    refine pure_ (i := 3) (N := some 39) (v := undef) (a' := ?_) #[true, true, true, true, false, false, false, false, false, false, false, false, false, false, false] rfl rfl (any_of HT_.out (by kernel_rfl)) (fun _ _ _ h => h) (Or.inr ⟨by rfl, rfl⟩) ?_ ?_
                    rotate_left
                    · simp only [Act.put, List.setIfInBounds_toArray, List.set_cons_zero, List.set_cons_succ, i64_w, i32_w]
                      rfl
                    refine pure_ (i := 4) (N := some 40) (v := undef) (a' := ?_) #[true, true, true, true, true, false, false, false, false, false, false, false, false, false, false] rfl rfl (any_of HT_.out (by kernel_rfl)) (fun _ _ _ h => h) (Or.inr ⟨by rfl, rfl⟩) ?_ ?_
                    rotate_left
                    · simp only [Act.put, List.setIfInBounds_toArray, List.set_cons_zero, List.set_cons_succ, i64_w, i32_w]
                      rfl
                    refine pure_ (i := 5) (N := some 41) (v := undef) (a' := ?_) #[true, true, true, true, true, true, false, false, false, false, false, false, false, false, false] rfl rfl (any_of HT_.out (by kernel_rfl)) (fun _ _ _ h => h) (Or.inr ⟨by rfl, rfl⟩) ?_ ?_
                    rotate_left
                    · simp only [Act.put, List.setIfInBounds_toArray, List.set_cons_zero, List.set_cons_succ, i64_w, i32_w]
                      rfl
                    refine pure_ (i := 6) (N := some 42) (v := undef) (a' := ?_) #[true, true, true, true, true, true, true, false, false, false, false, false, false, false, false] rfl rfl (any_of HT_.out (by kernel_rfl)) (fun _ _ _ h => h) (Or.inr ⟨by rfl, rfl⟩) ?_ ?_
                    rotate_left
                    · simp only [Act.put, List.setIfInBounds_toArray, List.set_cons_zero, List.set_cons_succ, i64_w, i32_w]
                      rfl
                    refine pure_ (i := 7) (N := some 43) (v := ?_) (a' := ?_) #[true, true, true, true, true, true, true, true, false, false, false, false, false, false, false] rfl rfl (any_of HT_.out (by kernel_rfl)) (fun _ _ _ h => h) (Or.inl ⟨by rfl, ?_⟩) ?_ ?_
                    rotate_left
                    · intro w'
                      go_simp
                      with_reducible rfl
                    rotate_left
                    · simp only [Act.put, List.setIfInBounds_toArray, List.set_cons_zero, List.set_cons_succ, i64_w, i32_w]
                      rfl
                    refine pure_ (i := 8) (N := some 44) (v := ?_) (a' := ?_) #[true, true, true, true, true, true, true, true, true, false, false, false, false, false, false] rfl rfl (any_of HT_.out (by kernel_rfl)) (fun _ _ _ h => h) (Or.inl ⟨by rfl, ?_⟩) ?_ ?_
                    rotate_left
                    · intro w'
                      go_simp
                      with_reducible rfl
                    rotate_left
                    · simp only [Act.put, List.setIfInBounds_toArray, List.set_cons_zero, List.set_cons_succ, i64_w, i32_w]
                      rfl
                    refine pure_ (i := 9) (N := some 45) (v := ?_) (a' := ?_) #[true, true, true, true, true, true, true, true, true, true, false, false, false, false, false] rfl rfl (any_of HT_.out (by kernel_rfl)) (fun _ _ _ h => h) (Or.inl ⟨by rfl, ?_⟩) ?_ ?_
                    rotate_left
                    · intro w'
                      go_simp
                      with_reducible rfl
                    rotate_left
                    · simp only [Act.put, List.setIfInBounds_toArray, List.set_cons_zero, List.set_cons_succ, i64_w, i32_w]
                      rfl
                    refine take_ (i := 10) (N := some 46) (v := ?_) (a' := ?_) #[true, true, true, true, true, true, true, true, true, true, true, false, false, false, false] rfl rfl (take_ofW HT_.out HW_.out (by kernel_rfl)) (fun _ _ _ h => h) (Or.inl ⟨by rfl, ?_⟩) hHeld ?_ ?_
                    rotate_left
                    · rintro w' ⟨s0, s1, s2, s3, s4⟩
                      go_simp
                      with_reducible rfl
                    rotate_left
                    · simp only [Act.put, List.setIfInBounds_toArray, List.set_cons_zero, List.set_cons_succ, i64_w, i32_w]
                      rfl
                    refine take_ (i := 11) (N := some 47) (v := ?_) (a' := ?_) #[true, true, true, true, true, true, true, true, true, true, true, true, false, false, false] rfl rfl (take_ofW HT_.out HW_.out (by kernel_rfl)) (fun _ _ _ h => h) (Or.inl ⟨by rfl, ?_⟩) hHeld ?_ ?_
                    rotate_left
                    · rintro w' ⟨s0, s1, s2, s3, s4⟩
                      go_simp
                      with_reducible rfl
                    rotate_left
                    · simp only [Act.put, List.setIfInBounds_toArray, List.set_cons_zero, List.set_cons_succ, i64_w, i32_w]
                      rfl
                    refine one_ (i := 12) (N := some 48) #[true, true, true, true, true, true, true, true, true, true, true, true, true, false, false] rfl rfl (one_of HT_.out (by kernel_rfl)) (by decide) (fun K hK => ?_)
                    refine goes_ Tryd.func61 (by kernel_rfl) rfl #[.int .i64 7, .agg #[.int .u64 t153, .int .u64 t154, .int .u64 t155, .string t156, .string t157], .int .i64 3, .agg #[.int .u64 t153, .int .u64 t154, .int .u64 t155, .string t156, .string t157]] (by rfl) rfl rfl (by (try simp only [List.map_toArray, List.map_cons, List.map_nil]); first | done | rfl | (simp only [List.length_drop, List.length_take]; rfl)) ?_
                    with_reducible refine (laws_stHolds.calls 7 t153 t154 t155 t156 t157 3 t153 t154 t155 t156 t157 t167 _ ?gl8 A51.out).mono ?_
                    case gl8 => (first | exact HG.out | exact Hand.Gl.below HG.out (by repeat (first | (with_reducible first | exact HB.out | apply below_alloc | apply pw_below_drewN | apply below_drew1) | exact HB.out)))
                    rintro e w58 ⟨rfl, hb⟩
                    refine ⟨_, rfl, ?_⟩
                    have n0_ := Aside0.mk (blk_below (g := gb149) (o := .cells #[.int .u64 t153, .int .u64 t154, .int .u64 t155, .string t156, .string t157] 29 (0, 0)) (by (with_reducible repeat (first | refine blk_drewN ?_ _ | refine blk_drew ?_ | refine blk_alloc ?_ _)); exact BK149.out) hb)
                    have n1_ := Aside0.mk (blk_below (g := gb150) (o := .cells #[.int .u64 t158, .int .u64 t159, .int .u64 t160, .string t161, .string t162] 29 (0, 0)) (by (with_reducible repeat (first | refine blk_drewN ?_ _ | refine blk_drew ?_ | refine blk_alloc ?_ _)); exact BK150.out) hb)
                    have n2_ := Aside0.mk (below_step (by repeat (first | (with_reducible first | exact HB.out | apply below_alloc | apply pw_below_drewN | apply below_drew1 | refine below_set ?_ GE149.out | refine below_set ?_ GE150.out) | exact HB.out)) hb)
                    clear BK149
                    clear BK150
                    clear HB
                    have BK149 := n0_
                    have BK150 := n1_
                    have HB := n2_
                    clear n0_ n1_ n2_
                    (try clear hb)
                    (try clear hb2)
                    (try clear hk)
                    (try clear hi)
                    refine hK.out _ _ ⟨(blk_cell BK149.out 0).trans rfl, (blk_cell BK149.out 1).trans rfl, (blk_cell BK149.out 2).trans rfl, (blk_cell BK149.out 3).trans rfl, (blk_cell BK149.out 4).trans rfl⟩ (fun hHeld => ?_)
                    clear hK K
                    refine norm_ (a' := ?_) ?_ ?_
                    rotate_left
                    · show Act.put _ (some 48) _ = _
                      simp only [Act.put, List.setIfInBounds_toArray, List.set_cons_zero, List.set_cons_succ, i64_w, i32_w]
                      rfl
                    refine pure_ (i := 13) (N := some 49) (v := ?_) (a' := ?_) #[true, true, true, true, true, true, true, true, true, true, true, true, true, true, false] rfl rfl (any_of HT_.out (by kernel_rfl)) (fun _ _ _ h => h) (Or.inl ⟨by rfl, ?_⟩) ?_ ?_
                    rotate_left
                    · intro w'
                      go_simp
                      with_reducible rfl
                    rotate_left
                    · simp only [Act.put, List.setIfInBounds_toArray, List.set_cons_zero, List.set_cons_succ, i64_w, i32_w]
                      rfl
                    refine pure_ (i := 14) (N := some 4) (v := ?_) (a' := ?_) #[true, true, true, true, true, true, true, true, true, true, true, true, true, true, true] rfl rfl (any_of HT_.out (by kernel_rfl)) (fun _ _ _ h => h) (Or.inl ⟨by rfl, ?_⟩) ?_ ?_
                    rotate_left
                    · intro w'
                      go_simp
                      with_reducible rfl
                    rotate_left
                    · simp only [Act.put, List.setIfInBounds_toArray, List.set_cons_zero, List.set_cons_succ, i64_w, i32_w]
                      rfl
                    refine done_ (done_of HT_.out (by kernel_rfl)) ?_
                    try go_wp2
                    go_ret
                    exact ⟨by first | rfl | (simp [errW_none, errW_some] <;> rfl) | (simp [*, errW_none, errW_some] <;> rfl), by repeat (first | (with_reducible first | exact HB.out | apply below_alloc | apply pw_below_drewN | apply below_drew1 | refine below_set ?_ GE149.out | refine below_set ?_ GE150.out) | exact HB.out)⟩
                  · rw [if_neg c50] at H
                    have c50b0 : (t165 == true) = false := by simpa using c50
                    (try (have c50b1 : decide (t165 = true) = false := by simpa using c50))
                    (try (have c50b2 : (t165 == true) = false := by simpa using c50))
                    (try (have c50b3 : ¬ (t165 = true) := by simpa using c50))
                    clear c50
                    obtain rfl := Option.some.inj H
                    try go_wp2
                    have n0_ := Aside0.mk (blk_drew BK149.out)
                    have n1_ := Aside0.mk (blk_drew BK150.out)
                    have n2_ := Aside0.mk (below_drew1 HB.out)
                    clear BK149
                    clear BK150
                    clear HB
                    have BK149 := n0_
                    have BK150 := n1_
                    have HB := n2_
                    clear n0_ n1_ n2_
                    refine start_ (n := 8) (S := fun w' => w'.cell? ⟨gb149, 0, none⟩ = some (.int .u64 t153) ∧ w'.cell? ⟨gb149, 1, none⟩ = some (.int .u64 t154) ∧ w'.cell? ⟨gb149, 2, none⟩ = some (.int .u64 t155) ∧ w'.cell? ⟨gb149, 3, none⟩ = some (.string t156) ∧ w'.cell? ⟨gb149, 4, none⟩ = some (.string t157) ∧ w'.cell? ⟨gb150, 0, none⟩ = some (.int .u64 t158) ∧ w'.cell? ⟨gb150, 1, none⟩ = some (.int .u64 t159) ∧ w'.cell? ⟨gb150, 2, none⟩ = some (.int .u64 t160) ∧ w'.cell? ⟨gb150, 3, none⟩ = some (.string t161) ∧ w'.cell? ⟨gb150, 4, none⟩ = some (.string t162)) (ds := []) #[false, false, false, false, false, false, false, false] (by kernel_rfl) rfl rfl ⟨(blk_cell BK149.out 0).trans rfl, (blk_cell BK149.out 1).trans rfl, (blk_cell BK149.out 2).trans rfl, (blk_cell BK149.out 3).trans rfl, (blk_cell BK149.out 4).trans rfl, (blk_cell BK150.out 0).trans rfl, (blk_cell BK150.out 1).trans rfl, (blk_cell BK150.out 2).trans rfl, (blk_cell BK150.out 3).trans rfl, (blk_cell BK150.out 4).trans rfl⟩ (fun hHeld => ?_); refine with_tabW laws_FnSemverTermCaretTilde.tab6 laws_FnSemverTermCaretTilde.bits6 (fun HT_ HW_ => ?_)
                    generalize wc.drew = w59 at BK149 BK150 HB hHeld ⊢
                    refine take_ (i := 0) (N := some 26) (v := ?_) (a' := ?_) #[true, false, false, false, false, false, false, false] rfl rfl (take_ofW HT_.out HW_.out (by kernel_rfl)) (fun _ _ _ h => h) (Or.inl ⟨by rfl, ?_⟩) hHeld ?_ ?_
                    rotate_left
                    · rintro w' ⟨s0, s1, s2, s3, s4, s5, s6, s7, s8, s9⟩
                      go_simp
                      with_reducible rfl
                    rotate_left
                    · simp only [Act.put, List.setIfInBounds_toArray, List.set_cons_zero, List.set_cons_succ, i64_w, i32_w]
                      rfl
                    refine take_ (i := 1) (N := some 27) (v := ?_) (a' := ?_) #[true, true, false, false, false, false, false, false] rfl rfl (take_ofW HT_.out HW_.out (by kernel_rfl)) (fun _ _ _ h => h) (Or.inl ⟨by rfl, ?_⟩) hHeld ?_ ?_
                    rotate_left
                    · rintro w' ⟨s0, s1, s2, s3, s4, s5, s6, s7, s8, s9⟩
                      go_simp
                      with_reducible rfl
                    rotate_left
                    · simp only [Act.put, List.setIfInBounds_toArray, List.set_cons_zero, List.set_cons_succ, i64_w, i32_w]
                      rfl
                    refine take_ (i := 3) (N := some 29) (v := ?_) (a' := ?_) #[true, true, false, true, false, false, false, false] rfl rfl (take_ofW HT_.out HW_.out (by kernel_rfl)) (fun _ _ _ h => h) (Or.inl ⟨by rfl, ?_⟩) hHeld ?_ ?_
                    rotate_left
                    · rintro w' ⟨s0, s1, s2, s3, s4, s5, s6, s7, s8, s9⟩
                      go_simp
                      with_reducible rfl
                    rotate_left
                    · simp only [Act.put, List.setIfInBounds_toArray, List.set_cons_zero, List.set_cons_succ, i64_w, i32_w]
                      rfl
                    refine take_ (i := 4) (N := some 30) (v := ?_) (a' := ?_) #[true, true, false, true, true, false, false, false] rfl rfl (take_ofW HT_.out HW_.out (by kernel_rfl)) (fun _ _ _ h => h) (Or.inl ⟨by rfl, ?_⟩) hHeld ?_ ?_
                    rotate_left
                    · rintro w' ⟨s0, s1, s2, s3, s4, s5, s6, s7, s8, s9⟩
                      go_simp
                      with_reducible rfl
                    rotate_left
                    · simp only [Act.put, List.setIfInBounds_toArray, List.set_cons_zero, List.set_cons_succ, i64_w, i32_w]
                      rfl
                    refine one_ (i := 2) (N := some 28) #[true, true, true, true, true, false, false, false] rfl rfl (one_of HT_.out (by kernel_rfl)) (by decide) (fun K hK => ?_)
                    refine goes_ Tryd.func61 (by kernel_rfl) rfl #[.int .i64 7, .agg #[.int .u64 t153, .int .u64 t154, .int .u64 t155, .string t156, .string t157], .int .i64 3, .agg #[.int .u64 t158, .int .u64 t159, .int .u64 t160, .string t161, .string t162]] (by rfl) rfl rfl (by (try simp only [List.map_toArray, List.map_cons, List.map_nil]); first | done | rfl | (simp only [List.length_drop, List.length_take]; rfl)) ?_
                    with_reducible refine (laws_stHolds.calls 7 t153 t154 t155 t156 t157 3 t158 t159 t160 t161 t162 t165 _ ?gl9 A46.out).mono ?_
                    case gl9 => (first | exact HG.out | exact Hand.Gl.below HG.out (by repeat (first | (with_reducible first | exact HB.out | apply below_alloc | apply pw_below_drewN | apply below_drew1) | exact HB.out)))
                    rintro e w60 ⟨rfl, hb⟩
                    refine ⟨_, rfl, ?_⟩
                    have n0_ := Aside0.mk (blk_below (g := gb149) (o := .cells #[.int .u64 t153, .int .u64 t154, .int .u64 t155, .string t156, .string t157] 29 (0, 0)) (by (with_reducible repeat (first | refine blk_drewN ?_ _ | refine blk_drew ?_ | refine blk_alloc ?_ _)); exact BK149.out) hb)
                    have n1_ := Aside0.mk (blk_below (g := gb150) (o := .cells #[.int .u64 t158, .int .u64 t159, .int .u64 t160, .string t161, .string t162] 29 (0, 0)) (by (with_reducible repeat (first | refine blk_drewN ?_ _ | refine blk_drew ?_ | refine blk_alloc ?_ _)); exact BK150.out) hb)
                    have n2_ := Aside0.mk (below_step (by repeat (first | (with_reducible first | exact HB.out | apply below_alloc | apply pw_below_drewN | apply below_drew1 | refine below_set ?_ GE149.out | refine below_set ?_ GE150.out) | exact HB.out)) hb)
                    clear BK149
                    clear BK150
                    clear HB
                    have BK149 := n0_
                    have BK150 := n1_
                    have HB := n2_
                    clear n0_ n1_ n2_
                    (try clear hb)
                    (try clear hb2)
                    (try clear hk)
                    (try clear hi)
                    refine hK.out _ _ ⟨(blk_cell BK149.out 0).trans rfl, (blk_cell BK149.out 1).trans rfl, (blk_cell BK149.out 2).trans rfl, (blk_cell BK149.out 3).trans rfl, (blk_cell BK149.out 4).trans rfl, (blk_cell BK150.out 0).trans rfl, (blk_cell BK150.out 1).trans rfl, (blk_cell BK150.out 2).trans rfl, (blk_cell BK150.out 3).trans rfl, (blk_cell BK150.out 4).trans rfl⟩ (fun hHeld => ?_)
                    clear hK K
                    refine norm_ (a' := ?_) ?_ ?_
                    rotate_left
                    · show Act.put _ (some 28) _ = _
                      simp only [Act.put, List.setIfInBounds_toArray, List.set_cons_zero, List.set_cons_succ, i64_w, i32_w]
                      rfl
                    refine one_ (i := 5) (N := some 31) #[true, true, true, true, true, true, false, false] rfl rfl (one_of HT_.out (by kernel_rfl)) (by decide) (fun K hK => ?_)
                    refine goes_ Tryd.func61 (by kernel_rfl) rfl #[.int .i64 6, .agg #[.int .u64 t153, .int .u64 t154, .int .u64 t155, .string t156, .string t157], .int .i64 3, .agg #[.int .u64 t158, .int .u64 t159, .int .u64 t160, .string t161, .string t162]] (by rfl) rfl rfl (by (try simp only [List.map_toArray, List.map_cons, List.map_nil]); first | done | rfl | (simp only [List.length_drop, List.length_take]; rfl)) ?_
                    with_reducible refine (laws_stHolds.calls 6 t153 t154 t155 t156 t157 3 t158 t159 t160 t161 t162 true _ ?gl10 A47.out).mono ?_
                    case gl10 => (first | exact HG.out | exact Hand.Gl.below HG.out (by repeat (first | (with_reducible first | exact HB.out | apply below_alloc | apply pw_below_drewN | apply below_drew1) | exact HB.out)))
                    rintro e w61 ⟨rfl, hb⟩
                    refine ⟨_, rfl, ?_⟩
                    have n0_ := Aside0.mk (blk_below (g := gb149) (o := .cells #[.int .u64 t153, .int .u64 t154, .int .u64 t155, .string t156, .string t157] 29 (0, 0)) (by (with_reducible repeat (first | refine blk_drewN ?_ _ | refine blk_drew ?_ | refine blk_alloc ?_ _)); exact BK149.out) hb)
                    have n1_ := Aside0.mk (blk_below (g := gb150) (o := .cells #[.int .u64 t158, .int .u64 t159, .int .u64 t160, .string t161, .string t162] 29 (0, 0)) (by (with_reducible repeat (first | refine blk_drewN ?_ _ | refine blk_drew ?_ | refine blk_alloc ?_ _)); exact BK150.out) hb)
                    have n2_ := Aside0.mk (below_step (by repeat (first | (with_reducible first | exact HB.out | apply below_alloc | apply pw_below_drewN | apply below_drew1 | refine below_set ?_ GE149.out | refine below_set ?_ GE150.out) | exact HB.out)) hb)
                    clear BK149
                    clear BK150
                    clear HB
                    have BK149 := n0_
                    have BK150 := n1_
                    have HB := n2_
                    clear n0_ n1_ n2_
                    (try clear hb)
                    (try clear hb2)
                    (try clear hk)
                    (try clear hi)
                    refine hK.out _ _ ⟨(blk_cell BK149.out 0).trans rfl, (blk_cell BK149.out 1).trans rfl, (blk_cell BK149.out 2).trans rfl, (blk_cell BK149.out 3).trans rfl, (blk_cell BK149.out 4).trans rfl, (blk_cell BK150.out 0).trans rfl, (blk_cell BK150.out 1).trans rfl, (blk_cell BK150.out 2).trans rfl, (blk_cell BK150.out 3).trans rfl, (blk_cell BK150.out 4).trans rfl⟩ (fun hHeld => ?_)
                    clear hK K
                    refine norm_ (a' := ?_) ?_ ?_
                    rotate_left
                    · show Act.put _ (some 31) _ = _
                      simp only [Act.put, List.setIfInBounds_toArray, List.set_cons_zero, List.set_cons_succ, i64_w, i32_w]
                      rfl
                    refine pure_ (i := 6) (N := some 5) (v := ?_) (a' := ?_) #[true, true, true, true, true, true, true, false] rfl rfl (any_of HT_.out (by kernel_rfl)) (fun _ _ _ h => h) (Or.inl ⟨by rfl, ?_⟩) ?_ ?_
                    rotate_left
                    · intro w'
                      go_simp
                      with_reducible rfl
                    rotate_left
                    · simp only [Act.put, List.setIfInBounds_toArray, List.set_cons_zero, List.set_cons_succ, i64_w, i32_w]
                      rfl
                    refine pure_ (i := 7) (N := some 6) (v := ?_) (a' := ?_) #[true, true, true, true, true, true, true, true] rfl rfl (any_of HT_.out (by kernel_rfl)) (fun _ _ _ h => h) (Or.inl ⟨by rfl, ?_⟩) ?_ ?_
                    rotate_left
                    · intro w'
                      go_simp
                      with_reducible rfl
                    rotate_left
                    · simp only [Act.put, List.setIfInBounds_toArray, List.set_cons_zero, List.set_cons_succ, i64_w, i32_w]
                      rfl
                    refine done_ (done_of HT_.out (by kernel_rfl)) ?_
                    have hnb62 := NB149_150.out
                    have hnc62 := NB150_149.out
                    have hcz63_0 : w61.cell? ⟨gb149, 0, none⟩ = some (.int .u64 t153) := (blk_cell BK149.out 0).trans rfl
                    have hcz63_1 : w61.cell? ⟨gb149, 1, none⟩ = some (.int .u64 t154) := (blk_cell BK149.out 1).trans rfl
                    have hcz63_2 : w61.cell? ⟨gb149, 2, none⟩ = some (.int .u64 t155) := (blk_cell BK149.out 2).trans rfl
                    have hcz63_3 : w61.cell? ⟨gb149, 3, none⟩ = some (.string t156) := (blk_cell BK149.out 3).trans rfl
                    have hcz63_4 : w61.cell? ⟨gb149, 4, none⟩ = some (.string t157) := (blk_cell BK149.out 4).trans rfl
                    have hfz63_0 := blk_frozen BK149.out 0
                    have hfz63_1 := blk_frozen BK149.out 1
                    have hfz63_2 := blk_frozen BK149.out 2
                    have hfz63_3 := blk_frozen BK149.out 3
                    have hfz63_4 := blk_frozen BK149.out 4
                    try go_wp2
                    have n0_ := Aside0.mk (blk_drew BK149.out)
                    have n1_ := Aside0.mk (blk_drew BK150.out)
                    have n2_ := Aside0.mk (below_drew1 HB.out)
                    clear BK149
                    clear BK150
                    clear HB
                    have BK149 := n0_
                    have BK150 := n1_
                    have HB := n2_
                    clear n0_ n1_ n2_
                    refine start_ (n := 15) (S := fun w' => True) (ds := []) #[false, false, false, false, false, false, false, false, false, false, false, false, false, false, false] (by kernel_rfl) rfl rfl trivial (fun hHeld => ?_); refine with_tabW laws_FnSemverTermCaretTilde.tab8 laws_FnSemverTermCaretTilde.bits8 (fun HT_ HW_ => ?_)
                    generalize w61.drew = w64 at BK149 BK150 HB hHeld ⊢
                    refine pure_ (i := 0) (N := some 36) (v := ?_) (a' := ?_) #[true, false, false, false, false, false, false, false, false, false, false, false, false, false, false] rfl rfl (any_of HT_.out (by kernel_rfl)) (fun _ _ _ h => h) (Or.inl ⟨by rfl, ?_⟩) ?_ ?_
                    rotate_left
                    · intro w'
                      go_simp
                      with_reducible rfl
                    rotate_left
                    · simp only [Act.put, List.setIfInBounds_toArray, List.set_cons_zero, List.set_cons_succ, i64_w, i32_w]
                      rfl
                    refine pure_ (i := 1) (N := some 37) (v := ?_) (a' := ?_) #[true, true, false, false, false, false, false, false, false, false, false, false, false, false, false] rfl rfl (any_of HT_.out (by kernel_rfl)) (fun _ _ _ h => h) (Or.inl ⟨by rfl, ?_⟩) ?_ ?_
                    rotate_left
                    · intro w'
                      go_simp
                      with_reducible rfl
                    rotate_left
                    · simp only [Act.put, List.setIfInBounds_toArray, List.set_cons_zero, List.set_cons_succ, i64_w, i32_w]
                      rfl
                    refine pure_ (i := 2) (N := some 38) (v := ?_) (a' := ?_) #[true, true, true, false, false, false, false, false, false, false, false, false, false, false, false] rfl rfl (any_of HT_.out (by kernel_rfl)) (fun _ _ _ h => h) (Or.inl ⟨by rfl, ?_⟩) ?_ ?_
                    rotate_left
                    · intro w'
                      go_simp
                      with_reducible rfl
                    rotate_left
                    · simp only [Act.put, List.setIfInBounds_toArray, List.set_cons_zero, List.set_cons_succ, i64_w, i32_w]
                      rfl
                    refine pure_ (i := 3) (N := some 39) (v := undef) (a' := ?_) #[true, true, true, true, false, false, false, false, false, false, false, false, false, false, false] rfl rfl (any_of HT_.out (by kernel_rfl)) (fun _ _ _ h => h) (Or.inr ⟨by rfl, rfl⟩) ?_ ?_
                    rotate_left
                    · simp only [Act.put, List.setIfInBounds_toArray, List.set_cons_zero, List.set_cons_succ, i64_w, i32_w]
                      rfl
                    refine pure_ (i := 4) (N := some 40) (v := undef) (a' := ?_) #[true, true, true, true, true, false, false, false, false, false, false, false, false, false, false] rfl rfl (any_of HT_.out (by kernel_rfl)) (fun _ _ _ h => h) (Or.inr ⟨by rfl, rfl⟩) ?_ ?_
                    rotate_left
                    · simp only [Act.put, List.setIfInBounds_toArray, List.set_cons_zero, List.set_cons_succ, i64_w, i32_w]
                      rfl
                    refine pure_ (i := 5) (N := some 41) (v := undef) (a' := ?_) #[true, true, true, true, true, true, false, false, false, false, false, false, false, false, false] rfl rfl (any_of HT_.out (by kernel_rfl)) (fun _ _ _ h => h) (Or.inr ⟨by rfl, rfl⟩) ?_ ?_
                    rotate_left
                    · simp only [Act.put, List.setIfInBounds_toArray, List.set_cons_zero, List.set_cons_succ, i64_w, i32_w]
                      rfl
                    refine pure_ (i := 6) (N := some 42) (v := undef) (a' := ?_) #[true, true, true, true, true, true, true, false, false, false, false, false, false, false, false] rfl rfl (any_of HT_.out (by kernel_rfl)) (fun _ _ _ h => h) (Or.inr ⟨by rfl, rfl⟩) ?_ ?_
                    rotate_left
                    · simp only [Act.put, List.setIfInBounds_toArray, List.set_cons_zero, List.set_cons_succ, i64_w, i32_w]
                      rfl
                    refine pure_ (i := 7) (N := some 43) (v := ?_) (a' := ?_) #[true, true, true, true, true, true, true, true, false, false, false, false, false, false, false] rfl rfl (any_of HT_.out (by kernel_rfl)) (fun _ _ _ h => h) (Or.inl ⟨by rfl, ?_⟩) ?_ ?_
                    rotate_left
                    · intro w'
                      go_simp
                      with_reducible rfl
                    rotate_left
                    · simp only [Act.put, List.setIfInBounds_toArray, List.set_cons_zero, List.set_cons_succ, i64_w, i32_w]
                      rfl
                    refine pure_ (i := 8) (N := some 44) (v := ?_) (a' := ?_) #[true, true, true, true, true, true, true, true, true, false, false, false, false, false, false] rfl rfl (any_of HT_.out (by kernel_rfl)) (fun _ _ _ h => h) (Or.inl ⟨by rfl, ?_⟩) ?_ ?_
                    rotate_left
                    · intro w'
                      go_simp
                      with_reducible rfl
                    rotate_left
                    · simp only [Act.put, List.setIfInBounds_toArray, List.set_cons_zero, List.set_cons_succ, i64_w, i32_w]
                      rfl
                    refine pure_ (i := 9) (N := some 45) (v := ?_) (a' := ?_) #[true, true, true, true, true, true, true, true, true, true, false, false, false, false, false] rfl rfl (any_of HT_.out (by kernel_rfl)) (fun _ _ _ h => h) (Or.inl ⟨by rfl, ?_⟩) ?_ ?_
                    rotate_left
                    · intro w'
                      go_simp
                      with_reducible rfl
                    rotate_left
                    · simp only [Act.put, List.setIfInBounds_toArray, List.set_cons_zero, List.set_cons_succ, i64_w, i32_w]
                      rfl
                    refine pure_ (i := 10) (N := some 46) (v := undef) (a' := ?_) #[true, true, true, true, true, true, true, true, true, true, true, false, false, false, false] rfl rfl (any_of HT_.out (by kernel_rfl)) (fun _ _ _ h => h) (Or.inr ⟨by rfl, rfl⟩) ?_ ?_
                    rotate_left
                    · simp only [Act.put, List.setIfInBounds_toArray, List.set_cons_zero, List.set_cons_succ, i64_w, i32_w]
                      rfl
                    refine pure_ (i := 11) (N := some 47) (v := undef) (a' := ?_) #[true, true, true, true, true, true, true, true, true, true, true, true, false, false, false] rfl rfl (any_of HT_.out (by kernel_rfl)) (fun _ _ _ h => h) (Or.inr ⟨by rfl, rfl⟩) ?_ ?_
                    rotate_left
                    · simp only [Act.put, List.setIfInBounds_toArray, List.set_cons_zero, List.set_cons_succ, i64_w, i32_w]
                      rfl
                    refine pure_ (i := 12) (N := some 48) (v := undef) (a' := ?_) #[true, true, true, true, true, true, true, true, true, true, true, true, true, false, false] rfl rfl (any_of HT_.out (by kernel_rfl)) (fun _ _ _ h => h) (Or.inr ⟨by rfl, rfl⟩) ?_ ?_
                    rotate_left
                    · simp only [Act.put, List.setIfInBounds_toArray, List.set_cons_zero, List.set_cons_succ, i64_w, i32_w]
                      rfl
                    refine pure_ (i := 13) (N := some 49) (v := ?_) (a' := ?_) #[true, true, true, true, true, true, true, true, true, true, true, true, true, true, false] rfl rfl (any_of HT_.out (by kernel_rfl)) (fun _ _ _ h => h) (Or.inl ⟨by rfl, ?_⟩) ?_ ?_
                    rotate_left
                    · intro w'
                      go_simp
                      with_reducible rfl
                    rotate_left
                    · simp only [Act.put, List.setIfInBounds_toArray, List.set_cons_zero, List.set_cons_succ, i64_w, i32_w]
                      rfl
                    refine pure_ (i := 14) (N := some 4) (v := ?_) (a' := ?_) #[true, true, true, true, true, true, true, true, true, true, true, true, true, true, true] rfl rfl (any_of HT_.out (by kernel_rfl)) (fun _ _ _ h => h) (Or.inl ⟨by rfl, ?_⟩) ?_ ?_
                    rotate_left
                    · intro w'
                      go_simp
                      with_reducible rfl
                    rotate_left
                    · simp only [Act.put, List.setIfInBounds_toArray, List.set_cons_zero, List.set_cons_succ, i64_w, i32_w]
                      rfl
                    refine done_ (done_of HT_.out (by kernel_rfl)) ?_
                    try go_wp2
                    go_ret
                    exact ⟨by first | rfl | (simp [errW_none, errW_some] <;> rfl) | (simp [*, errW_none, errW_some] <;> rfl), by repeat (first | (with_reducible first | exact HB.out | apply below_alloc | apply pw_below_drewN | apply below_drew1 | refine below_set ?_ GE149.out | refine below_set ?_ GE150.out) | exact HB.out)⟩
                · replace c49 := Bool.eq_false_iff.mpr c49
                  subst c49
                  have H1 : ((spec_IncMinor.f t153 t154 t155 t156 t157).bind fun bt168 => ((laws_stHolds.f 7 bt168.1 bt168.2.1 bt168.2.2.1 bt168.2.2.2.1 bt168.2.2.2.2 3 t158 t159 t160 t161 t162).bind fun t173 => (if (t165 == t173) = true then ((laws_stHolds.f 7 t153 t154 t155 t156 t157 3 t153 t154 t155 t156 t157).bind fun t174 => (some t174)) else (some false)))) = some r := by rw [if_neg (show ¬ (false = true) by decide)] at H; exact H
                  clear H
                  have H := H1
                  clear H1
                  replace H := Option.bind_eq_some_iff.mp H
                  obtain ⟨⟨t168, t169, t170, t171, t172⟩, A650, H⟩ := H
                  replace H : ((laws_stHolds.f 7 t168 t169 t170 t171 t172 3 t158 t159 t160 t161 t162).bind fun t173 => (if (t165 == t173) = true then ((laws_stHolds.f 7 t153 t154 t155 t156 t157 3 t153 t154 t155 t156 t157).bind fun t174 => (some t174)) else (some false))) = some r := H
                  have A65 := Aside0.mk A650
                  clear A650
                  replace H := Option.bind_eq_some_iff.mp H
                  obtain ⟨t173, A660, H⟩ := H
                  replace H : (if (t165 == t173) = true then ((laws_stHolds.f 7 t153 t154 t155 t156 t157 3 t153 t154 t155 t156 t157).bind fun t174 => (some t174)) else (some false)) = some r := H
                  have A66 := Aside0.mk A660
                  clear A660
                  by_cases c67 : (t165 == t173) = true
                  · rw [if_pos c67] at H
                    have c67b0 : (t165 == t173) = true := c67
                    (try (have c67b1 : decide (t165 = t173) = true := by simpa using c67))
                    (try (have c67b2 : (t165 == t173) = true := by simpa using c67))
                    clear c67
                    replace H := Option.bind_eq_some_iff.mp H
                    obtain ⟨t174, A680, H⟩ := H
                    replace H : (some t174) = some r := H
                    have A68 := Aside0.mk A680
                    clear A680
                    obtain rfl := Option.some.inj H
                    try go_wp2
                    have n0_ := Aside0.mk (blk_drew BK149.out)
                    have n1_ := Aside0.mk (blk_drew BK150.out)
                    have n2_ := Aside0.mk (below_drew1 HB.out)
                    clear BK149
                    clear BK150
                    clear HB
                    have BK149 := n0_
                    have BK150 := n1_
                    have HB := n2_
                    clear n0_ n1_ n2_
                    refine start_ (n := 8) (S := fun w' => w'.cell? ⟨gb149, 0, none⟩ = some (.int .u64 t153) ∧ w'.cell? ⟨gb149, 1, none⟩ = some (.int .u64 t154) ∧ w'.cell? ⟨gb149, 2, none⟩ = some (.int .u64 t155) ∧ w'.cell? ⟨gb149, 3, none⟩ = some (.string t156) ∧ w'.cell? ⟨gb149, 4, none⟩ = some (.string t157) ∧ w'.cell? ⟨gb150, 0, none⟩ = some (.int .u64 t158) ∧ w'.cell? ⟨gb150, 1, none⟩ = some (.int .u64 t159) ∧ w'.cell? ⟨gb150, 2, none⟩ = some (.int .u64 t160) ∧ w'.cell? ⟨gb150, 3, none⟩ = some (.string t161) ∧ w'.cell? ⟨gb150, 4, none⟩ = some (.string t162)) (ds := []) #[false, false, false, false, false, false, false, false] (by kernel_rfl) rfl rfl ⟨(blk_cell BK149.out 0).trans rfl, (blk_cell BK149.out 1).trans rfl, (blk_cell BK149.out 2).trans rfl, (blk_cell BK149.out 3).trans rfl, (blk_cell BK149.out 4).trans rfl, (blk_cell BK150.out 0).trans rfl, (blk_cell BK150.out 1).trans rfl, (blk_cell BK150.out 2).trans rfl, (blk_cell BK150.out 3).trans rfl, (blk_cell BK150.out 4).trans rfl⟩ (fun hHeld => ?_); refine with_tabW laws_FnSemverTermCaretTilde.tab6 laws_FnSemverTermCaretTilde.bits6 (fun HT_ HW_ => ?_)
                    generalize wc.drew = w69 at BK149 BK150 HB hHeld ⊢
                    refine take_ (i := 0) (N := some 26) (v := ?_) (a' := ?_) #[true, false, false, false, false, false, false, false] rfl rfl (take_ofW HT_.out HW_.out (by kernel_rfl)) (fun _ _ _ h => h) (Or.inl ⟨by rfl, ?_⟩) hHeld ?_ ?_
                    rotate_left
                    · rintro w' ⟨s0, s1, s2, s3, s4, s5, s6, s7, s8, s9⟩
                      go_simp
                      with_reducible rfl
                    rotate_left
                    · simp only [Act.put, List.setIfInBounds_toArray, List.set_cons_zero, List.set_cons_succ, i64_w, i32_w]
                      rfl
                    refine take_ (i := 1) (N := some 27) (v := ?_) (a' := ?_) #[true, true, false, false, false, false, false, false] rfl rfl (take_ofW HT_.out HW_.out (by kernel_rfl)) (fun _ _ _ h => h) (Or.inl ⟨by rfl, ?_⟩) hHeld ?_ ?_
                    rotate_left
                    · rintro w' ⟨s0, s1, s2, s3, s4, s5, s6, s7, s8, s9⟩
                      go_simp
                      with_reducible rfl
                    rotate_left
                    · simp only [Act.put, List.setIfInBounds_toArray, List.set_cons_zero, List.set_cons_succ, i64_w, i32_w]
                      rfl
                    refine take_ (i := 3) (N := some 29) (v := ?_) (a' := ?_) #[true, true, false, true, false, false, false, false] rfl rfl (take_ofW HT_.out HW_.out (by kernel_rfl)) (fun _ _ _ h => h) (Or.inl ⟨by rfl, ?_⟩) hHeld ?_ ?_
                    rotate_left
                    · rintro w' ⟨s0, s1, s2, s3, s4, s5, s6, s7, s8, s9⟩
                      go_simp
                      with_reducible rfl
                    rotate_left
                    · simp only [Act.put, List.setIfInBounds_toArray, List.set_cons_zero, List.set_cons_succ, i64_w, i32_w]
                      rfl
                    refine take_ (i := 4) (N := some 30) (v := ?_) (a' := ?_) #[true, true, false, true, true, false, false, false] rfl rfl (take_ofW HT_.out HW_.out (by kernel_rfl)) (fun _ _ _ h => h) (Or.inl ⟨by rfl, ?_⟩) hHeld ?_ ?_
                    rotate_left
                    · rintro w' ⟨s0, s1, s2, s3, s4, s5, s6, s7, s8, s9⟩
                      go_simp
                      with_reducible rfl
                    rotate_left
                    · simp only [Act.put, List.setIfInBounds_toArray, List.set_cons_zero, List.set_cons_succ, i64_w, i32_w]
                      rfl
                    refine one_ (i := 2) (N := some 28) #[true, true, true, true, true, false, false, false] rfl rfl (one_of HT_.out (by kernel_rfl)) (by decide) (fun K hK => ?_)
                    refine goes_ Tryd.func61 (by kernel_rfl) rfl #[.int .i64 7, .agg #[.int .u64 t153, .int .u64 t154, .int .u64 t155, .string t156, .string t157], .int .i64 3, .agg #[.int .u64 t158, .int .u64 t159, .int .u64 t160, .string t161, .string t162]] (by rfl) rfl rfl (by (try simp only [List.map_toArray, List.map_cons, List.map_nil]); first | done | rfl | (simp only [List.length_drop, List.length_take]; rfl)) ?_
                    with_reducible refine (laws_stHolds.calls 7 t153 t154 t155 t156 t157 3 t158 t159 t160 t161 t162 t165 _ ?gl11 A46.out).mono ?_
                    case gl11 => (first | exact HG.out | exact Hand.Gl.below HG.out (by repeat (first | (with_reducible first | exact HB.out | apply below_alloc | apply pw_below_drewN | apply below_drew1) | exact HB.out)))
                    rintro e w70 ⟨rfl, hb⟩
                    refine ⟨_, rfl, ?_⟩
                    have n0_ := Aside0.mk (blk_below (g := gb149) (o := .cells #[.int .u64 t153, .int .u64 t154, .int .u64 t155, .string t156, .string t157] 29 (0, 0)) (by (with_reducible repeat (first | refine blk_drewN ?_ _ | refine blk_drew ?_ | refine blk_alloc ?_ _)); exact BK149.out) hb)
                    have n1_ := Aside0.mk (blk_below (g := gb150) (o := .cells #[.int .u64 t158, .int .u64 t159, .int .u64 t160, .string t161, .string t162] 29 (0, 0)) (by (with_reducible repeat (first | refine blk_drewN ?_ _ | refine blk_drew ?_ | refine blk_alloc ?_ _)); exact BK150.out) hb)
                    have n2_ := Aside0.mk (below_step (by repeat (first | (with_reducible first | exact HB.out | apply below_alloc | apply pw_below_drewN | apply below_drew1 | refine below_set ?_ GE149.out | refine below_set ?_ GE150.out) | exact HB.out)) hb)
                    clear BK149
                    clear BK150
                    clear HB
                    have BK149 := n0_
                    have BK150 := n1_
                    have HB := n2_
                    clear n0_ n1_ n2_
                    (try clear hb)
                    (try clear hb2)
                    (try clear hk)
                    (try clear hi)
                    refine hK.out _ _ ⟨(blk_cell BK149.out 0).trans rfl, (blk_cell BK149.out 1).trans rfl, (blk_cell BK149.out 2).trans rfl, (blk_cell BK149.out 3).trans rfl, (blk_cell BK149.out 4).trans rfl, (blk_cell BK150.out 0).trans rfl, (blk_cell BK150.out 1).trans rfl, (blk_cell BK150.out 2).trans rfl, (blk_cell BK150.out 3).trans rfl, (blk_cell BK150.out 4).trans rfl⟩ (fun hHeld => ?_)
                    clear hK K
                    refine norm_ (a' := ?_) ?_ ?_
                    rotate_left
                    · show Act.put _ (some 28) _ = _
                      simp only [Act.put, List.setIfInBounds_toArray, List.set_cons_zero, List.set_cons_succ, i64_w, i32_w]
                      rfl
                    refine one_ (i := 5) (N := some 31) #[true, true, true, true, true, true, false, false] rfl rfl (one_of HT_.out (by kernel_rfl)) (by decide) (fun K hK => ?_)
                    refine goes_ Tryd.func61 (by kernel_rfl) rfl #[.int .i64 6, .agg #[.int .u64 t153, .int .u64 t154, .int .u64 t155, .string t156, .string t157], .int .i64 3, .agg #[.int .u64 t158, .int .u64 t159, .int .u64 t160, .string t161, .string t162]] (by rfl) rfl rfl (by (try simp only [List.map_toArray, List.map_cons, List.map_nil]); first | done | rfl | (simp only [List.length_drop, List.length_take]; rfl)) ?_
                    with_reducible refine (laws_stHolds.calls 6 t153 t154 t155 t156 t157 3 t158 t159 t160 t161 t162 false _ ?gl12 A47.out).mono ?_
                    case gl12 => (first | exact HG.out | exact Hand.Gl.below HG.out (by repeat (first | (with_reducible first | exact HB.out | apply below_alloc | apply pw_below_drewN | apply below_drew1) | exact HB.out)))
                    rintro e w71 ⟨rfl, hb⟩
                    refine ⟨_, rfl, ?_⟩
                    have n0_ := Aside0.mk (blk_below (g := gb149) (o := .cells #[.int .u64 t153, .int .u64 t154, .int .u64 t155, .string t156, .string t157] 29 (0, 0)) (by (with_reducible repeat (first | refine blk_drewN ?_ _ | refine blk_drew ?_ | refine blk_alloc ?_ _)); exact BK149.out) hb)
                    have n1_ := Aside0.mk (blk_below (g := gb150) (o := .cells #[.int .u64 t158, .int .u64 t159, .int .u64 t160, .string t161, .string t162] 29 (0, 0)) (by (with_reducible repeat (first | refine blk_drewN ?_ _ | refine blk_drew ?_ | refine blk_alloc ?_ _)); exact BK150.out) hb)
                    have n2_ := Aside0.mk (below_step (by repeat (first | (with_reducible first | exact HB.out | apply below_alloc | apply pw_below_drewN | apply below_drew1 | refine below_set ?_ GE149.out | refine below_set ?_ GE150.out) | exact HB.out)) hb)
                    clear BK149
                    clear BK150
                    clear HB
                    have BK149 := n0_
                    have BK150 := n1_
                    have HB := n2_
                    clear n0_ n1_ n2_
                    (try clear hb)
                    (try clear hb2)
                    (try clear hk)
                    (try clear hi)
                    refine hK.out _ _ ⟨(blk_cell BK149.out 0).trans rfl, (blk_cell BK149.out 1).trans rfl, (blk_cell BK149.out 2).trans rfl, (blk_cell BK149.out 3).trans rfl, (blk_cell BK149.out 4).trans rfl, (blk_cell BK150.out 0).trans rfl, (blk_cell BK150.out 1).trans rfl, (blk_cell BK150.out 2).trans rfl, (blk_cell BK150.out 3).trans rfl, (blk_cell BK150.out 4).trans rfl⟩ (fun hHeld => ?_)
                    clear hK K
                    refine norm_ (a' := ?_) ?_ ?_
                    rotate_left
                    · show Act.put _ (some 31) _ = _
                      simp only [Act.put, List.setIfInBounds_toArray, List.set_cons_zero, List.set_cons_succ, i64_w, i32_w]
                      rfl
                    refine pure_ (i := 6) (N := some 5) (v := ?_) (a' := ?_) #[true, true, true, true, true, true, true, false] rfl rfl (any_of HT_.out (by kernel_rfl)) (fun _ _ _ h => h) (Or.inl ⟨by rfl, ?_⟩) ?_ ?_
                    rotate_left
                    · intro w'
                      go_simp
                      with_reducible rfl
                    rotate_left
                    · simp only [Act.put, List.setIfInBounds_toArray, List.set_cons_zero, List.set_cons_succ, i64_w, i32_w]
                      rfl
                    refine pure_ (i := 7) (N := some 6) (v := ?_) (a' := ?_) #[true, true, true, true, true, true, true, true] rfl rfl (any_of HT_.out (by kernel_rfl)) (fun _ _ _ h => h) (Or.inl ⟨by rfl, ?_⟩) ?_ ?_
                    rotate_left
                    · intro w'
                      go_simp
                      with_reducible rfl
                    rotate_left
                    · simp only [Act.put, List.setIfInBounds_toArray, List.set_cons_zero, List.set_cons_succ, i64_w, i32_w]
                      rfl
                    refine done_ (done_of HT_.out (by kernel_rfl)) ?_
                    have hnb72 := NB149_150.out
                    have hnc72 := NB150_149.out
                    have hcz73_0 : w71.cell? ⟨gb149, 0, none⟩ = some (.int .u64 t153) := (blk_cell BK149.out 0).trans rfl
                    have hcz73_1 : w71.cell? ⟨gb149, 1, none⟩ = some (.int .u64 t154) := (blk_cell BK149.out 1).trans rfl
                    have hcz73_2 : w71.cell? ⟨gb149, 2, none⟩ = some (.int .u64 t155) := (blk_cell BK149.out 2).trans rfl
                    have hcz73_3 : w71.cell? ⟨gb149, 3, none⟩ = some (.string t156) := (blk_cell BK149.out 3).trans rfl
                    have hcz73_4 : w71.cell? ⟨gb149, 4, none⟩ = some (.string t157) := (blk_cell BK149.out 4).trans rfl
                    have hfz73_0 := blk_frozen BK149.out 0
                    have hfz73_1 := blk_frozen BK149.out 1
                    have hfz73_2 := blk_frozen BK149.out 2
                    have hfz73_3 := blk_frozen BK149.out 3
                    have hfz73_4 := blk_frozen BK149.out 4
                    try go_wp2
                    have n0_ := Aside0.mk (blk_drew BK149.out)
                    have n1_ := Aside0.mk (blk_drew BK150.out)
                    have n2_ := Aside0.mk (below_drew1 HB.out)
                    clear BK149
                    clear BK150
                    clear HB
                    have BK149 := n0_
                    have BK150 := n1_
                    have HB := n2_
                    clear n0_ n1_ n2_
                    refine start_ (n := 15) (S := fun w' => w'.cell? ⟨gb149, 0, none⟩ = some (.int .u64 t153) ∧ w'.cell? ⟨gb149, 1, none⟩ = some (.int .u64 t154) ∧ w'.cell? ⟨gb149, 2, none⟩ = some (.int .u64 t155) ∧ w'.cell? ⟨gb149, 3, none⟩ = some (.string t156) ∧ w'.cell? ⟨gb149, 4, none⟩ = some (.string t157) ∧ w'.cell? ⟨gb150, 0, none⟩ = some (.int .u64 t158) ∧ w'.cell? ⟨gb150, 1, none⟩ = some (.int .u64 t159) ∧ w'.cell? ⟨gb150, 2, none⟩ = some (.int .u64 t160) ∧ w'.cell? ⟨gb150, 3, none⟩ = some (.string t161) ∧ w'.cell? ⟨gb150, 4, none⟩ = some (.string t162)) (ds := []) #[false, false, false, false, false, false, false, false, false, false, false, false, false, false, false] (by kernel_rfl) rfl rfl ⟨(blk_cell BK149.out 0).trans rfl, (blk_cell BK149.out 1).trans rfl, (blk_cell BK149.out 2).trans rfl, (blk_cell BK149.out 3).trans rfl, (blk_cell BK149.out 4).trans rfl, (blk_cell BK150.out 0).trans rfl, (blk_cell BK150.out 1).trans rfl, (blk_cell BK150.out 2).trans rfl, (blk_cell BK150.out 3).trans rfl, (blk_cell BK150.out 4).trans rfl⟩ (fun hHeld => ?_); refine with_tabW laws_FnSemverTermCaretTilde.tab8 laws_FnSemverTermCaretTilde.bits8 (fun HT_ HW_ => ?_)
                    generalize w71.drew = w74 at BK149 BK150 HB hHeld ⊢
                    refine pure_ (i := 0) (N := some 36) (v := ?_) (a' := ?_) #[true, false, false, false, false, false, false, false, false, false, false, false, false, false, false] rfl rfl (any_of HT_.out (by kernel_rfl)) (fun _ _ _ h => h) (Or.inl ⟨by rfl, ?_⟩) ?_ ?_
                    rotate_left
                    · intro w'
                      go_simp
                      with_reducible rfl
                    rotate_left
                    · simp only [Act.put, List.setIfInBounds_toArray, List.set_cons_zero, List.set_cons_succ, i64_w, i32_w]
                      rfl
                    refine pure_ (i := 1) (N := some 37) (v := ?_) (a' := ?_) #[true, true, false, false, false, false, false, false, false, false, false, false, false, false, false] rfl rfl (any_of HT_.out (by kernel_rfl)) (fun _ _ _ h => h) (Or.inl ⟨by rfl, ?_⟩) ?_ ?_
                    rotate_left
                    · intro w'
                      go_simp
                      with_reducible rfl
                    rotate_left
                    · simp only [Act.put, List.setIfInBounds_toArray, List.set_cons_zero, List.set_cons_succ, i64_w, i32_w]
                      rfl
                    refine pure_ (i := 2) (N := some 38) (v := ?_) (a' := ?_) #[true, true, true, false, false, false, false, false, false, false, false, false, false, false, false] rfl rfl (any_of HT_.out (by kernel_rfl)) (fun _ _ _ h => h) (Or.inl ⟨by rfl, ?_⟩) ?_ ?_
                    rotate_left
                    · intro w'
                      go_simp
                      with_reducible rfl
                    rotate_left
                    · simp only [Act.put, List.setIfInBounds_toArray, List.set_cons_zero, List.set_cons_succ, i64_w, i32_w]
                      rfl
                    refine take_ (i := 3) (N := some 39) (v := ?_) (a' := ?_) #[true, true, true, true, false, false, false, false, false, false, false, false, false, false, false] rfl rfl (take_ofW HT_.out HW_.out (by kernel_rfl)) (fun _ _ _ h => h) (Or.inl ⟨by rfl, ?_⟩) hHeld ?_ ?_
                    rotate_left
                    · rintro w' ⟨s0, s1, s2, s3, s4, s5, s6, s7, s8, s9⟩
                      go_simp
                      with_reducible rfl
                    rotate_left
                    · simp only [Act.put, List.setIfInBounds_toArray, List.set_cons_zero, List.set_cons_succ, i64_w, i32_w]
                      rfl
                    refine take_ (i := 5) (N := some 41) (v := ?_) (a' := ?_) #[true, true, true, true, false, true, false, false, false, false, false, false, false, false, false] rfl rfl (take_ofW HT_.out HW_.out (by kernel_rfl)) (fun _ _ _ h => h) (Or.inl ⟨by rfl, ?_⟩) hHeld ?_ ?_
                    rotate_left
                    · rintro w' ⟨s0, s1, s2, s3, s4, s5, s6, s7, s8, s9⟩
                      go_simp
                      with_reducible rfl
                    rotate_left
                    · simp only [Act.put, List.setIfInBounds_toArray, List.set_cons_zero, List.set_cons_succ, i64_w, i32_w]
                      rfl
                    refine one_ (i := 4) (N := some 40) #[true, true, true, true, true, true, false, false, false, false, false, false, false, false, false] rfl rfl (one_of HT_.out (by kernel_rfl)) (by decide) (fun K hK => ?_)
                    refine goes_ Tryd.func62 (by kernel_rfl) rfl #[.agg #[.int .u64 t153, .int .u64 t154, .int .u64 t155, .string t156, .string t157]] (by rfl) rfl rfl (by (try simp only [List.map_toArray, List.map_cons, List.map_nil]); first | done | rfl | (simp only [List.length_drop, List.length_take]; rfl)) ?_
                    with_reducible refine (spec_IncMinor.calls t153 t154 t155 t156 t157 t168 t169 t170 t171 t172 _ A65.out).mono ?_
                    rintro e w75 ⟨rfl, hb⟩
                    refine ⟨_, rfl, ?_⟩
                    have n0_ := Aside0.mk (blk_below (g := gb149) (o := .cells #[.int .u64 t153, .int .u64 t154, .int .u64 t155, .string t156, .string t157] 29 (0, 0)) (by (with_reducible repeat (first | refine blk_drewN ?_ _ | refine blk_drew ?_ | refine blk_alloc ?_ _)); exact BK149.out) hb)
                    have n1_ := Aside0.mk (blk_below (g := gb150) (o := .cells #[.int .u64 t158, .int .u64 t159, .int .u64 t160, .string t161, .string t162] 29 (0, 0)) (by (with_reducible repeat (first | refine blk_drewN ?_ _ | refine blk_drew ?_ | refine blk_alloc ?_ _)); exact BK150.out) hb)
                    have n2_ := Aside0.mk (below_step (by repeat (first | (with_reducible first | exact HB.out | apply below_alloc | apply pw_below_drewN | apply below_drew1 | refine below_set ?_ GE149.out | refine below_set ?_ GE150.out) | exact HB.out)) hb)
                    clear BK149
                    clear BK150
                    clear HB
                    have BK149 := n0_
                    have BK150 := n1_
                    have HB := n2_
                    clear n0_ n1_ n2_
                    (try clear hb)
                    (try clear hb2)
                    (try clear hk)
                    (try clear hi)
                    refine hK.out _ _ ⟨(blk_cell BK149.out 0).trans rfl, (blk_cell BK149.out 1).trans rfl, (blk_cell BK149.out 2).trans rfl, (blk_cell BK149.out 3).trans rfl, (blk_cell BK149.out 4).trans rfl, (blk_cell BK150.out 0).trans rfl, (blk_cell BK150.out 1).trans rfl, (blk_cell BK150.out 2).trans rfl, (blk_cell BK150.out 3).trans rfl, (blk_cell BK150.out 4).trans rfl⟩ (fun hHeld => ?_)
                    clear hK K
                    refine norm_ (a' := ?_) ?_ ?_
                    rotate_left
                    · show Act.put _ (some 40) _ = _
                      simp only [Act.put, List.setIfInBounds_toArray, List.set_cons_zero, List.set_cons_succ, i64_w, i32_w]
                      rfl
                    refine one_ (i := 6) (N := some 42) #[true, true, true, true, true, true, true, false, false, false, false, false, false, false, false] rfl rfl (one_of HT_.out (by kernel_rfl)) (by decide) (fun K hK => ?_)
                    refine goes_ Tryd.func61 (by kernel_rfl) rfl #[.int .i64 7, .agg #[.int .u64 t168, .int .u64 t169, .int .u64 t170, .string t171, .string t172], .int .i64 3, .agg #[.int .u64 t158, .int .u64 t159, .int .u64 t160, .string t161, .string t162]] (by rfl) rfl rfl (by (try simp only [List.map_toArray, List.map_cons, List.map_nil]); first | done | rfl | (simp only [List.length_drop, List.length_take]; rfl)) ?_
                    with_reducible refine (laws_stHolds.calls 7 t168 t169 t170 t171 t172 3 t158 t159 t160 t161 t162 t173 _ ?gl13 A66.out).mono ?_
                    case gl13 => (first | exact HG.out | exact Hand.Gl.below HG.out (by repeat (first | (with_reducible first | exact HB.out | apply below_alloc | apply pw_below_drewN | apply below_drew1) | exact HB.out)))
                    rintro e w76 ⟨rfl, hb⟩
                    refine ⟨_, rfl, ?_⟩
                    have n0_ := Aside0.mk (blk_below (g := gb149) (o := .cells #[.int .u64 t153, .int .u64 t154, .int .u64 t155, .string t156, .string t157] 29 (0, 0)) (by (with_reducible repeat (first | refine blk_drewN ?_ _ | refine blk_drew ?_ | refine blk_alloc ?_ _)); exact BK149.out) hb)
                    have n1_ := Aside0.mk (blk_below (g := gb150) (o := .cells #[.int .u64 t158, .int .u64 t159, .int .u64 t160, .string t161, .string t162] 29 (0, 0)) (by (with_reducible repeat (first | refine blk_drewN ?_ _ | refine blk_drew ?_ | refine blk_alloc ?_ _)); exact BK150.out) hb)
                    have n2_ := Aside0.mk (below_step (by repeat (first | (with_reducible first | exact HB.out | apply below_alloc | apply pw_below_drewN | apply below_drew1 | refine below_set ?_ GE149.out | refine below_set ?_ GE150.out) | exact HB.out)) hb)
                    clear BK149
                    clear BK150
                    clear HB
                    have BK149 := n0_
                    have BK150 := n1_
                    have HB := n2_
                    clear n0_ n1_ n2_
                    (try clear hb)
                    (try clear hb2)
                    (try clear hk)
                    (try clear hi)
                    refine hK.out _ _ ⟨(blk_cell BK149.out 0).trans rfl, (blk_cell BK149.out 1).trans rfl, (blk_cell BK149.out 2).trans rfl, (blk_cell BK149.out 3).trans rfl, (blk_cell BK149.out 4).trans rfl, (blk_cell BK150.out 0).trans rfl, (blk_cell BK150.out 1).trans rfl, (blk_cell BK150.out 2).trans rfl, (blk_cell BK150.out 3).trans rfl, (blk_cell BK150.out 4).trans rfl⟩ (fun hHeld => ?_)
                    clear hK K
                    refine norm_ (a' := ?_) ?_ ?_
                    rotate_left
                    · show Act.put _ (some 42) _ = _
                      simp only [Act.put, List.setIfInBounds_toArray, List.set_cons_zero, List.set_cons_succ, i64_w, i32_w]
                      rfl
                    refine pure_ (i := 7) (N := some 43) (v := ?_) (a' := ?_) #[true, true, true, true, true, true, true, true, false, false, false, false, false, false, false] rfl rfl (any_of HT_.out (by kernel_rfl)) (fun _ _ _ h => h) (Or.inl ⟨by rfl, ?_⟩) ?_ ?_
                    rotate_left
                    · intro w'
                      go_simp
                      with_reducible rfl
                    rotate_left
                    · simp only [Act.put, List.setIfInBounds_toArray, List.set_cons_zero, List.set_cons_succ, i64_w, i32_w]
                      rfl
                    refine pure_ (i := 8) (N := some 44) (v := ?_) (a' := ?_) #[true, true, true, true, true, true, true, true, true, false, false, false, false, false, false] rfl rfl (any_of HT_.out (by kernel_rfl)) (fun _ _ _ h => h) (Or.inl ⟨by rfl, ?_⟩) ?_ ?_
                    rotate_left
                    · intro w'
                      go_simp
                      with_reducible rfl
                    rotate_left
                    · simp only [Act.put, List.setIfInBounds_toArray, List.set_cons_zero, List.set_cons_succ, i64_w, i32_w]
                      rfl
                    refine pure_ (i := 9) (N := some 45) (v := ?_) (a' := ?_) #[true, true, true, true, true, true, true, true, true, true, false, false, false, false, false] rfl rfl (any_of HT_.out (by kernel_rfl)) (fun _ _ _ h => h) (Or.inl ⟨by rfl, ?_⟩) ?_ ?_
                    rotate_left
                    · intro w'
                      go_simp
                      with_reducible rfl
                    rotate_left
                    · simp only [Act.put, List.setIfInBounds_toArray, List.set_cons_zero, List.set_cons_succ, i64_w, i32_w]
                      rfl
                    refine take_ (i := 10) (N := some 46) (v := ?_) (a' := ?_) #[true, true, true, true, true, true, true, true, true, true, true, false, false, false, false] rfl rfl (take_ofW HT_.out HW_.out (by kernel_rfl)) (fun _ _ _ h => h) (Or.inl ⟨by rfl, ?_⟩) hHeld ?_ ?_
                    rotate_left
                    · rintro w' ⟨s0, s1, s2, s3, s4, s5, s6, s7, s8, s9⟩
                      go_simp
                      with_reducible rfl
                    rotate_left
                    · simp only [Act.put, List.setIfInBounds_toArray, List.set_cons_zero, List.set_cons_succ, i64_w, i32_w]
                      rfl
                    refine take_ (i := 11) (N := some 47) (v := ?_) (a' := ?_) #[true, true, true, true, true, true, true, true, true, true, true, true, false, false, false] rfl rfl (take_ofW HT_.out HW_.out (by kernel_rfl)) (fun _ _ _ h => h) (Or.inl ⟨by rfl, ?_⟩) hHeld ?_ ?_
                    rotate_left
                    · rintro w' ⟨s0, s1, s2, s3, s4, s5, s6, s7, s8, s9⟩
                      go_simp
                      with_reducible rfl
                    rotate_left
                    · simp only [Act.put, List.setIfInBounds_toArray, List.set_cons_zero, List.set_cons_succ, i64_w, i32_w]
                      rfl
                    refine one_ (i := 12) (N := some 48) #[true, true, true, true, true, true, true, true, true, true, true, true, true, false, false] rfl rfl (one_of HT_.out (by kernel_rfl)) (by decide) (fun K hK => ?_)
                    refine goes_ Tryd.func61 (by kernel_rfl) rfl #[.int .i64 7, .agg #[.int .u64 t153, .int .u64 t154, .int .u64 t155, .string t156, .string t157], .int .i64 3, .agg #[.int .u64 t153, .int .u64 t154, .int .u64 t155, .string t156, .string t157]] (by rfl) rfl rfl (by (try simp only [List.map_toArray, List.map_cons, List.map_nil]); first | done | rfl | (simp only [List.length_drop, List.length_take]; rfl)) ?_
                    with_reducible refine (laws_stHolds.calls 7 t153 t154 t155 t156 t157 3 t153 t154 t155 t156 t157 t174 _ ?gl14 A68.out).mono ?_
                    case gl14 => (first | exact HG.out | exact Hand.Gl.below HG.out (by repeat (first | (with_reducible first | exact HB.out | apply below_alloc | apply pw_below_drewN | apply below_drew1) | exact HB.out)))
                    rintro e w77 ⟨rfl, hb⟩
                    refine ⟨_, rfl, ?_⟩
                    have n0_ := Aside0.mk (blk_below (g := gb149) (o := .cells #[.int .u64 t153, .int .u64 t154, .int .u64 t155, .string t156, .string t157] 29 (0, 0)) (by (with_reducible repeat (first | refine blk_drewN ?_ _ | refine blk_drew ?_ | refine blk_alloc ?_ _)); exact BK149.out) hb)
                    have n1_ := Aside0.mk (blk_below (g := gb150) (o := .cells #[.int .u64 t158, .int .u64 t159, .int .u64 t160, .string t161, .string t162] 29 (0, 0)) (by (with_reducible repeat (first | refine blk_drewN ?_ _ | refine blk_drew ?_ | refine blk_alloc ?_ _)); exact BK150.out) hb)
                    have n2_ := Aside0.mk (below_step (by repeat (first | (with_reducible first | exact HB.out | apply below_alloc | apply pw_below_drewN | apply below_drew1 | refine below_set ?_ GE149.out | refine below_set ?_ GE150.out) | exact HB.out)) hb)
                    clear BK149
                    clear BK150
                    clear HB
                    have BK149 := n0_
                    have BK150 := n1_
                    have HB := n2_
                    clear n0_ n1_ n2_
                    (try clear hb)
                    (try clear hb2)
                    (try clear hk)
                    (try clear hi)
                    refine hK.out _ _ ⟨(blk_cell BK149.out 0).trans rfl, (blk_cell BK149.out 1).trans rfl, (blk_cell BK149.out 2).trans rfl, (blk_cell BK149.out 3).trans rfl, (blk_cell BK149.out 4).trans rfl, (blk_cell BK150.out 0).trans rfl, (blk_cell BK150.out 1).trans rfl, (blk_cell BK150.out 2).trans rfl, (blk_cell BK150.out 3).trans rfl, (blk_cell BK150.out 4).trans rfl⟩ (fun hHeld => ?_)
                    clear hK K
                    refine norm_ (a' := ?_) ?_ ?_
                    rotate_left
                    · show Act.put _ (some 48) _ = _
                      simp only [Act.put, List.setIfInBounds_toArray, List.set_cons_zero, List.set_cons_succ, i64_w, i32_w]
                      rfl
                    refine pure_ (i := 13) (N := some 49) (v := ?_) (a' := ?_) #[true, true, true, true, true, true, true, true, true, true, true, true, true, true, false] rfl rfl (any_of HT_.out (by kernel_rfl)) (fun _ _ _ h => h) (Or.inl ⟨by rfl, ?_⟩) ?_ ?_
                    rotate_left
                    · intro w'
                      go_simp
                      with_reducible rfl
                    rotate_left
                    · simp only [Act.put, List.setIfInBounds_toArray, List.set_cons_zero, List.set_cons_succ, i64_w, i32_w]
                      rfl
                    refine pure_ (i := 14) (N := some 4) (v := ?_) (a' := ?_) #[true, true, true, true, true, true, true, true, true, true, true, true, true, true, true] rfl rfl (any_of HT_.out (by kernel_rfl)) (fun _ _ _ h => h) (Or.inl ⟨by rfl, ?_⟩) ?_ ?_
                    rotate_left
                    · intro w'
                      go_simp
                      with_reducible rfl
                    rotate_left
                    · simp only [Act.put, List.setIfInBounds_toArray, List.set_cons_zero, List.set_cons_succ, i64_w, i32_w]
                      rfl
                    refine done_ (done_of HT_.out (by kernel_rfl)) ?_
                    try go_wp2
                    go_ret
                    exact ⟨by first | rfl | (simp [errW_none, errW_some] <;> rfl) | (simp [*, errW_none, errW_some] <;> rfl), by repeat (first | (with_reducible first | exact HB.out | apply below_alloc | apply pw_below_drewN | apply below_drew1 | refine below_set ?_ GE149.out | refine below_set ?_ GE150.out) | exact HB.out)⟩
                  · rw [if_neg c67] at H
                    have c67b0 : (t165 == t173) = false := by simpa using c67
                    (try (have c67b1 : decide (t165 = t173) = false := by simpa using c67))
                    (try (have c67b2 : (t165 == t173) = false := by simpa using c67))
                    (try (have c67b3 : ¬ (t165 = t173) := by simpa using c67))
                    clear c67
                    obtain rfl := Option.some.inj H
                    try go_wp2
                    have n0_ := Aside0.mk (blk_drew BK149.out)
                    have n1_ := Aside0.mk (blk_drew BK150.out)
                    have n2_ := Aside0.mk (below_drew1 HB.out)
                    clear BK149
                    clear BK150
                    clear HB
                    have BK149 := n0_
                    have BK150 := n1_
                    have HB := n2_
                    clear n0_ n1_ n2_
                    refine start_ (n := 8) (S := fun w' => w'.cell? ⟨gb149, 0, none⟩ = some (.int .u64 t153) ∧ w'.cell? ⟨gb149, 1, none⟩ = some (.int .u64 t154) ∧ w'.cell? ⟨gb149, 2, none⟩ = some (.int .u64 t155) ∧ w'.cell? ⟨gb149, 3, none⟩ = some (.string t156) ∧ w'.cell? ⟨gb149, 4, none⟩ = some (.string t157) ∧ w'.cell? ⟨gb150, 0, none⟩ = some (.int .u64 t158) ∧ w'.cell? ⟨gb150, 1, none⟩ = some (.int .u64 t159) ∧ w'.cell? ⟨gb150, 2, none⟩ = some (.int .u64 t160) ∧ w'.cell? ⟨gb150, 3, none⟩ = some (.string t161) ∧ w'.cell? ⟨gb150, 4, none⟩ = some (.string t162)) (ds := []) #[false, false, false, false, false, false, false, false] (by kernel_rfl) rfl rfl ⟨(blk_cell BK149.out 0).trans rfl, (blk_cell BK149.out 1).trans rfl, (blk_cell BK149.out 2).trans rfl, (blk_cell BK149.out 3).trans rfl, (blk_cell BK149.out 4).trans rfl, (blk_cell BK150.out 0).trans rfl, (blk_cell BK150.out 1).trans rfl, (blk_cell BK150.out 2).trans rfl, (blk_cell BK150.out 3).trans rfl, (blk_cell BK150.out 4).trans rfl⟩ (fun hHeld => ?_); refine with_tabW laws_FnSemverTermCaretTilde.tab6 laws_FnSemverTermCaretTilde.bits6 (fun HT_ HW_ => ?_)
                    generalize wc.drew = w78 at BK149 BK150 HB hHeld ⊢
                    refine take_ (i := 0) (N := some 26) (v := ?_) (a' := ?_) #[true, false, false, false, false, false, false, false] rfl rfl (take_ofW HT_.out HW_.out (by kernel_rfl)) (fun _ _ _ h => h) (Or.inl ⟨by rfl, ?_⟩) hHeld ?_ ?_
                    rotate_left
                    · rintro w' ⟨s0, s1, s2, s3, s4, s5, s6, s7, s8, s9⟩
                      go_simp
                      with_reducible rfl
                    rotate_left
                    · simp only [Act.put, List.setIfInBounds_toArray, List.set_cons_zero, List.set_cons_succ, i64_w, i32_w]
                      rfl
                    refine take_ (i := 1) (N := some 27) (v := ?_) (a' := ?_) #[true, true, false, false, false, false, false, false] rfl rfl (take_ofW HT_.out HW_.out (by kernel_rfl)) (fun _ _ _ h => h) (Or.inl ⟨by rfl, ?_⟩) hHeld ?_ ?_
                    rotate_left
                    · rintro w' ⟨s0, s1, s2, s3, s4, s5, s6, s7, s8, s9⟩
                      go_simp
                      with_reducible rfl
                    rotate_left
                    · simp only [Act.put, List.setIfInBounds_toArray, List.set_cons_zero, List.set_cons_succ, i64_w, i32_w]
                      rfl
                    refine take_ (i := 3) (N := some 29) (v := ?_) (a' := ?_) #[true, true, false, true, false, false, false, false] rfl rfl (take_ofW HT_.out HW_.out (by kernel_rfl)) (fun _ _ _ h => h) (Or.inl ⟨by rfl, ?_⟩) hHeld ?_ ?_
                    rotate_left
                    · rintro w' ⟨s0, s1, s2, s3, s4, s5, s6, s7, s8, s9⟩
                      go_simp
                      with_reducible rfl
                    rotate_left
                    · simp only [Act.put, List.setIfInBounds_toArray, List.set_cons_zero, List.set_cons_succ, i64_w, i32_w]
                      rfl
                    refine take_ (i := 4) (N := some 30) (v := ?_) (a' := ?_) #[true, true, false, true, true, false, false, false] rfl rfl (take_ofW HT_.out HW_.out (by kernel_rfl)) (fun _ _ _ h => h) (Or.inl ⟨by rfl, ?_⟩) hHeld ?_ ?_
                    rotate_left
                    · rintro w' ⟨s0, s1, s2, s3, s4, s5, s6, s7, s8, s9⟩
                      go_simp
                      with_reducible rfl
                    rotate_left
                    · simp only [Act.put, List.setIfInBounds_toArray, List.set_cons_zero, List.set_cons_succ, i64_w, i32_w]
                      rfl
                    refine one_ (i := 2) (N := some 28) #[true, true, true, true, true, false, false, false] rfl rfl (one_of HT_.out (by kernel_rfl)) (by decide) (fun K hK => ?_)
                    refine goes_ Tryd.func61 (by kernel_rfl) rfl #[.int .i64 7, .agg #[.int .u64 t153, .int .u64 t154, .int .u64 t155, .string t156, .string t157], .int .i64 3, .agg #[.int .u64 t158, .int .u64 t159, .int .u64 t160, .string t161, .string t162]] (by rfl) rfl rfl (by (try simp only [List.map_toArray, List.map_cons, List.map_nil]); first | done | rfl | (simp only [List.length_drop, List.length_take]; rfl)) ?_
                    with_reducible refine (laws_stHolds.calls 7 t153 t154 t155 t156 t157 3 t158 t159 t160 t161 t162 t165 _ ?gl15 A46.out).mono ?_
                    case gl15 => (first | exact HG.out | exact Hand.Gl.below HG.out (by repeat (first | (with_reducible first | exact HB.out | apply below_alloc | apply pw_below_drewN | apply below_drew1) | exact HB.out)))
                    rintro e w79 ⟨rfl, hb⟩
                    refine ⟨_, rfl, ?_⟩
                    have n0_ := Aside0.mk (blk_below (g := gb149) (o := .cells #[.int .u64 t153, .int .u64 t154, .int .u64 t155, .string t156, .string t157] 29 (0, 0)) (by (with_reducible repeat (first | refine blk_drewN ?_ _ | refine blk_drew ?_ | refine blk_alloc ?_ _)); exact BK149.out) hb)
                    have n1_ := Aside0.mk (blk_below (g := gb150) (o := .cells #[.int .u64 t158, .int .u64 t159, .int .u64 t160, .string t161, .string t162] 29 (0, 0)) (by (with_reducible repeat (first | refine blk_drewN ?_ _ | refine blk_drew ?_ | refine blk_alloc ?_ _)); exact BK150.out) hb)
                    have n2_ := Aside0.mk (below_step (by repeat (first | (with_reducible first | exact HB.out | apply below_alloc | apply pw_below_drewN | apply below_drew1 | refine below_set ?_ GE149.out | refine below_set ?_ GE150.out) | exact HB.out)) hb)
                    clear BK149
                    clear BK150
                    clear HB
                    have BK149 := n0_
                    have BK150 := n1_
                    have HB := n2_
                    clear n0_ n1_ n2_
                    (try clear hb)
                    (try clear hb2)
                    (try clear hk)
                    (try clear hi)
                    refine hK.out _ _ ⟨(blk_cell BK149.out 0).trans rfl, (blk_cell BK149.out 1).trans rfl, (blk_cell BK149.out 2).trans rfl, (blk_cell BK149.out 3).trans rfl, (blk_cell BK149.out 4).trans rfl, (blk_cell BK150.out 0).trans rfl, (blk_cell BK150.out 1).trans rfl, (blk_cell BK150.out 2).trans rfl, (blk_cell BK150.out 3).trans rfl, (blk_cell BK150.out 4).trans rfl⟩ (fun hHeld => ?_)
                    clear hK K
                    refine norm_ (a' := ?_) ?_ ?_
                    rotate_left
                    · show Act.put _ (some 28) _ = _
                      simp only [Act.put, List.setIfInBounds_toArray, List.set_cons_zero, List.set_cons_succ, i64_w, i32_w]
                      rfl
                    refine one_ (i := 5) (N := some 31) #[true, true, true, true, true, true, false, false] rfl rfl (one_of HT_.out (by kernel_rfl)) (by decide) (fun K hK => ?_)
                    refine goes_ Tryd.func61 (by kernel_rfl) rfl #[.int .i64 6, .agg #[.int .u64 t153, .int .u64 t154, .int .u64 t155, .string t156, .string t157], .int .i64 3, .agg #[.int .u64 t158, .int .u64 t159, .int .u64 t160, .string t161, .string t162]] (by rfl) rfl rfl (by (try simp only [List.map_toArray, List.map_cons, List.map_nil]); first | done | rfl | (simp only [List.length_drop, List.length_take]; rfl)) ?_
                    with_reducible refine (laws_stHolds.calls 6 t153 t154 t155 t156 t157 3 t158 t159 t160 t161 t162 false _ ?gl16 A47.out).mono ?_
                    case gl16 => (first | exact HG.out | exact Hand.Gl.below HG.out (by repeat (first | (with_reducible first | exact HB.out | apply below_alloc | apply pw_below_drewN | apply below_drew1) | exact HB.out)))
                    rintro e w80 ⟨rfl, hb⟩
                    refine ⟨_, rfl, ?_⟩
                    have n0_ := Aside0.mk (blk_below (g := gb149) (o := .cells #[.int .u64 t153, .int .u64 t154, .int .u64 t155, .string t156, .string t157] 29 (0, 0)) (by (with_reducible repeat (first | refine blk_drewN ?_ _ | refine blk_drew ?_ | refine blk_alloc ?_ _)); exact BK149.out) hb)
                    have n1_ := Aside0.mk (blk_below (g := gb150) (o := .cells #[.int .u64 t158, .int .u64 t159, .int .u64 t160, .string t161, .string t162] 29 (0, 0)) (by (with_reducible repeat (first | refine blk_drewN ?_ _ | refine blk_drew ?_ | refine blk_alloc ?_ _)); exact BK150.out) hb)
                    have n2_ := Aside0.mk (below_step (by repeat (first | (with_reducible first | exact HB.out | apply below_alloc | apply pw_below_drewN | apply below_drew1 | refine below_set ?_ GE149.out | refine below_set ?_ GE150.out) | exact HB.out)) hb)
                    clear BK149
                    clear BK150
                    clear HB
                    have BK149 := n0_
                    have BK150 := n1_
                    have HB := n2_
                    clear n0_ n1_ n2_
                    (try clear hb)
                    (try clear hb2)
                    (try clear hk)
                    (try clear hi)
                    refine hK.out _ _ ⟨(blk_cell BK149.out 0).trans rfl, (blk_cell BK149.out 1).trans rfl, (blk_cell BK149.out 2).trans rfl, (blk_cell BK149.out 3).trans rfl, (blk_cell BK149.out 4).trans rfl, (blk_cell BK150.out 0).trans rfl, (blk_cell BK150.out 1).trans rfl, (blk_cell BK150.out 2).trans rfl, (blk_cell BK150.out 3).trans rfl, (blk_cell BK150.out 4).trans rfl⟩ (fun hHeld => ?_)
                    clear hK K
                    refine norm_ (a' := ?_) ?_ ?_
                    rotate_left
                    · show Act.put _ (some 31) _ = _
                      simp only [Act.put, List.setIfInBounds_toArray, List.set_cons_zero, List.set_cons_succ, i64_w, i32_w]
                      rfl
                    refine pure_ (i := 6) (N := some 5) (v := ?_) (a' := ?_) #[true, true, true, true, true, true, true, false] rfl rfl (any_of HT_.out (by kernel_rfl)) (fun _ _ _ h => h) (Or.inl ⟨by rfl, ?_⟩) ?_ ?_
                    rotate_left
                    · intro w'
                      go_simp
                      with_reducible rfl
                    rotate_left
                    · simp only [Act.put, List.setIfInBounds_toArray, List.set_cons_zero, List.set_cons_succ, i64_w, i32_w]
                      rfl
                    refine pure_ (i := 7) (N := some 6) (v := ?_) (a' := ?_) #[true, true, true, true, true, true, true, true] rfl rfl (any_of HT_.out (by kernel_rfl)) (fun _ _ _ h => h) (Or.inl ⟨by rfl, ?_⟩) ?_ ?_
                    rotate_left
                    · intro w'
                      go_simp
                      with_reducible rfl
                    rotate_left
                    · simp only [Act.put, List.setIfInBounds_toArray, List.set_cons_zero, List.set_cons_succ, i64_w, i32_w]
                      rfl
                    refine done_ (done_of HT_.out (by kernel_rfl)) ?_
                    have hnb81 := NB149_150.out
                    have hnc81 := NB150_149.out
                    have hcz82_0 : w80.cell? ⟨gb149, 0, none⟩ = some (.int .u64 t153) := (blk_cell BK149.out 0).trans rfl
                    have hcz82_1 : w80.cell? ⟨gb149, 1, none⟩ = some (.int .u64 t154) := (blk_cell BK149.out 1).trans rfl
                    have hcz82_2 : w80.cell? ⟨gb149, 2, none⟩ = some (.int .u64 t155) := (blk_cell BK149.out 2).trans rfl
                    have hcz82_3 : w80.cell? ⟨gb149, 3, none⟩ = some (.string t156) := (blk_cell BK149.out 3).trans rfl
                    have hcz82_4 : w80.cell? ⟨gb149, 4, none⟩ = some (.string t157) := (blk_cell BK149.out 4).trans rfl
                    have hfz82_0 := blk_frozen BK149.out 0
                    have hfz82_1 := blk_frozen BK149.out 1
                    have hfz82_2 := blk_frozen BK149.out 2
                    have hfz82_3 := blk_frozen BK149.out 3
                    have hfz82_4 := blk_frozen BK149.out 4
                    try go_wp2
                    have n0_ := Aside0.mk (blk_drew BK149.out)
                    have n1_ := Aside0.mk (blk_drew BK150.out)
                    have n2_ := Aside0.mk (below_drew1 HB.out)
                    clear BK149
                    clear BK150
                    clear HB
                    have BK149 := n0_
                    have BK150 := n1_
                    have HB := n2_
                    clear n0_ n1_ n2_
                    refine start_ (n := 15) (S := fun w' => w'.cell? ⟨gb149, 0, none⟩ = some (.int .u64 t153) ∧ w'.cell? ⟨gb149, 1, none⟩ = some (.int .u64 t154) ∧ w'.cell? ⟨gb149, 2, none⟩ = some (.int .u64 t155) ∧ w'.cell? ⟨gb149, 3, none⟩ = some (.string t156) ∧ w'.cell? ⟨gb149, 4, none⟩ = some (.string t157) ∧ w'.cell? ⟨gb150, 0, none⟩ = some (.int .u64 t158) ∧ w'.cell? ⟨gb150, 1, none⟩ = some (.int .u64 t159) ∧ w'.cell? ⟨gb150, 2, none⟩ = some (.int .u64 t160) ∧ w'.cell? ⟨gb150, 3, none⟩ = some (.string t161) ∧ w'.cell? ⟨gb150, 4, none⟩ = some (.string t162)) (ds := []) #[false, false, false, false, false, false, false, false, false, false, false, false, false, false, false] (by kernel_rfl) rfl rfl ⟨(blk_cell BK149.out 0).trans rfl, (blk_cell BK149.out 1).trans rfl, (blk_cell BK149.out 2).trans rfl, (blk_cell BK149.out 3).trans rfl, (blk_cell BK149.out 4).trans rfl, (blk_cell BK150.out 0).trans rfl, (blk_cell BK150.out 1).trans rfl, (blk_cell BK150.out 2).trans rfl, (blk_cell BK150.out 3).trans rfl, (blk_cell BK150.out 4).trans rfl⟩ (fun hHeld => ?_); refine with_tabW laws_FnSemverTermCaretTilde.tab8 laws_FnSemverTermCaretTilde.bits8 (fun HT_ HW_ => ?_)
                    generalize w80.drew = w83 at BK149 BK150 HB hHeld ⊢
                    refine pure_ (i := 0) (N := some 36) (v := ?_) (a' := ?_) #[true, false, false, false, false, false, false, false, false, false, false, false, false, false, false] rfl rfl (any_of HT_.out (by kernel_rfl)) (fun _ _ _ h => h) (Or.inl ⟨by rfl, ?_⟩) ?_ ?_
                    rotate_left
                    · intro w'
                      go_simp
                      with_reducible rfl
                    rotate_left
                    · simp only [Act.put, List.setIfInBounds_toArray, List.set_cons_zero, List.set_cons_succ, i64_w, i32_w]
                      rfl
                    refine pure_ (i := 1) (N := some 37) (v := ?_) (a' := ?_) #[true, true, false, false, false, false, false, false, false, false, false, false, false, false, false] rfl rfl (any_of HT_.out (by kernel_rfl)) (fun _ _ _ h => h) (Or.inl ⟨by rfl, ?_⟩) ?_ ?_
                    rotate_left
                    · intro w'
                      go_simp
                      with_reducible rfl
                    rotate_left
                    · simp only [Act.put, List.setIfInBounds_toArray, List.set_cons_zero, List.set_cons_succ, i64_w, i32_w]
                      rfl
                    refine pure_ (i := 2) (N := some 38) (v := ?_) (a' := ?_) #[true, true, true, false, false, false, false, false, false, false, false, false, false, false, false] rfl rfl (any_of HT_.out (by kernel_rfl)) (fun _ _ _ h => h) (Or.inl ⟨by rfl, ?_⟩) ?_ ?_
                    rotate_left
                    · intro w'
                      go_simp
                      with_reducible rfl
                    rotate_left
                    · simp only [Act.put, List.setIfInBounds_toArray, List.set_cons_zero, List.set_cons_succ, i64_w, i32_w]
                      rfl
                    refine take_ (i := 3) (N := some 39) (v := ?_) (a' := ?_) #[true, true, true, true, false, false, false, false, false, false, false, false, false, false, false] rfl rfl (take_ofW HT_.out HW_.out (by kernel_rfl)) (fun _ _ _ h => h) (Or.inl ⟨by rfl, ?_⟩) hHeld ?_ ?_
                    rotate_left
                    · rintro w' ⟨s0, s1, s2, s3, s4, s5, s6, s7, s8, s9⟩
                      go_simp
                      with_reducible rfl
                    rotate_left
                    · simp only [Act.put, List.setIfInBounds_toArray, List.set_cons_zero, List.set_cons_succ, i64_w, i32_w]
                      rfl
                    refine take_ (i := 5) (N := some 41) (v := ?_) (a' := ?_) #[true, true, true, true, false, true, false, false, false, false, false, false, false, false, false] rfl rfl (take_ofW HT_.out HW_.out (by kernel_rfl)) (fun _ _ _ h => h) (Or.inl ⟨by rfl, ?_⟩) hHeld ?_ ?_
                    rotate_left
                    · rintro w' ⟨s0, s1, s2, s3, s4, s5, s6, s7, s8, s9⟩
                      go_simp
                      with_reducible rfl
                    rotate_left
                    · simp only [Act.put, List.setIfInBounds_toArray, List.set_cons_zero, List.set_cons_succ, i64_w, i32_w]
                      rfl
                    refine one_ (i := 4) (N := some 40) #[true, true, true, true, true, true, false, false, false, false, false, false, false, false, false] rfl rfl (one_of HT_.out (by kernel_rfl)) (by decide) (fun K hK => ?_)
                    refine goes_ Tryd.func62 (by kernel_rfl) rfl #[.agg #[.int .u64 t153, .int .u64 t154, .int .u64 t155, .string t156, .string t157]] (by rfl) rfl rfl (by (try simp only [List.map_toArray, List.map_cons, List.map_nil]); first | done | rfl | (simp only [List.length_drop, List.length_take]; rfl)) ?_
                    with_reducible refine (spec_IncMinor.calls t153 t154 t155 t156 t157 t168 t169 t170 t171 t172 _ A65.out).mono ?_
                    rintro e w84 ⟨rfl, hb⟩
                    refine ⟨_, rfl, ?_⟩
                    have n0_ := Aside0.mk (blk_below (g := gb149) (o := .cells #[.int .u64 t153, .int .u64 t154, .int .u64 t155, .string t156, .string t157] 29 (0, 0)) (by (with_reducible repeat (first | refine blk_drewN ?_ _ | refine blk_drew ?_ | refine blk_alloc ?_ _)); exact BK149.out) hb)
                    have n1_ := Aside0.mk (blk_below (g := gb150) (o := .cells #[.int .u64 t158, .int .u64 t159, .int .u64 t160, .string t161, .string t162] 29 (0, 0)) (by (with_reducible repeat (first | refine blk_drewN ?_ _ | refine blk_drew ?_ | refine blk_alloc ?_ _)); exact BK150.out) hb)
                    have n2_ := Aside0.mk (below_step (by repeat (first | (with_reducible first | exact HB.out | apply below_alloc | apply pw_below_drewN | apply below_drew1 | refine below_set ?_ GE149.out | refine below_set ?_ GE150.out) | exact HB.out)) hb)
                    clear BK149
                    clear BK150
                    clear HB
                    have BK149 := n0_
                    have BK150 := n1_
                    have HB := n2_
                    clear n0_ n1_ n2_
                    (try clear hb)
                    (try clear hb2)
                    (try clear hk)
                    (try clear hi)
                    refine hK.out _ _ ⟨(blk_cell BK149.out 0).trans rfl, (blk_cell BK149.out 1).trans rfl, (blk_cell BK149.out 2).trans rfl, (blk_cell BK149.out 3).trans rfl, (blk_cell BK149.out 4).trans rfl, (blk_cell BK150.out 0).trans rfl, (blk_cell BK150.out 1).trans rfl, (blk_cell BK150.out 2).trans rfl, (blk_cell BK150.out 3).trans rfl, (blk_cell BK150.out 4).trans rfl⟩ (fun hHeld => ?_)
                    clear hK K
                    refine norm_ (a' := ?_) ?_ ?_
                    rotate_left
                    · show Act.put _ (some 40) _ = _
                      simp only [Act.put, List.setIfInBounds_toArray, List.set_cons_zero, List.set_cons_succ, i64_w, i32_w]
                      rfl
                    refine one_ (i := 6) (N := some 42) #[true, true, true, true, true, true, true, false, false, false, false, false, false, false, false] rfl rfl (one_of HT_.out (by kernel_rfl)) (by decide) (fun K hK => ?_)
                    refine goes_ Tryd.func61 (by kernel_rfl) rfl #[.int .i64 7, .agg #[.int .u64 t168, .int .u64 t169, .int .u64 t170, .string t171, .string t172], .int .i64 3, .agg #[.int .u64 t158, .int .u64 t159, .int .u64 t160, .string t161, .string t162]] (by rfl) rfl rfl (by (try simp only [List.map_toArray, List.map_cons, List.map_nil]); first | done | rfl | (simp only [List.length_drop, List.length_take]; rfl)) ?_
                    with_reducible refine (laws_stHolds.calls 7 t168 t169 t170 t171 t172 3 t158 t159 t160 t161 t162 t173 _ ?gl17 A66.out).mono ?_
                    case gl17 => (first | exact HG.out | exact Hand.Gl.below HG.out (by repeat (first | (with_reducible first | exact HB.out | apply below_alloc | apply pw_below_drewN | apply below_drew1) | exact HB.out)))
                    rintro e w85 ⟨rfl, hb⟩
                    refine ⟨_, rfl, ?_⟩
                    have n0_ := Aside0.mk (blk_below (g := gb149) (o := .cells #[.int .u64 t153, .int .u64 t154, .int .u64 t155, .string t156, .string t157] 29 (0, 0)) (by (with_reducible repeat (first | refine blk_drewN ?_ _ | refine blk_drew ?_ | refine blk_alloc ?_ _)); exact BK149.out) hb)
                    have n1_ := Aside0.mk (blk_below (g := gb150) (o := .cells #[.int .u64 t158, .int .u64 t159, .int .u64 t160, .string t161, .string t162] 29 (0, 0)) (by (with_reducible repeat (first | refine blk_drewN ?_ _ | refine blk_drew ?_ | refine blk_alloc ?_ _)); exact BK150.out) hb)
                    have n2_ := Aside0.mk (below_step (by repeat (first | (with_reducible first | exact HB.out | apply below_alloc | apply pw_below_drewN | apply below_drew1 | refine below_set ?_ GE149.out | refine below_set ?_ GE150.out) | exact HB.out)) hb)
                    clear BK149
                    clear BK150
                    clear HB
                    have BK149 := n0_
                    have BK150 := n1_
                    have HB := n2_
                    clear n0_ n1_ n2_
                    (try clear hb)
                    (try clear hb2)
                    (try clear hk)
                    (try clear hi)
                    refine hK.out _ _ ⟨(blk_cell BK149.out 0).trans rfl, (blk_cell BK149.out 1).trans rfl, (blk_cell BK149.out 2).trans rfl, (blk_cell BK149.out 3).trans rfl, (blk_cell BK149.out 4).trans rfl, (blk_cell BK150.out 0).trans rfl, (blk_cell BK150.out 1).trans rfl, (blk_cell BK150.out 2).trans rfl, (blk_cell BK150.out 3).trans rfl, (blk_cell BK150.out 4).trans rfl⟩ (fun hHeld => ?_)
                    clear hK K
                    refine norm_ (a' := ?_) ?_ ?_
                    rotate_left
                    · show Act.put _ (some 42) _ = _
                      simp only [Act.put, List.setIfInBounds_toArray, List.set_cons_zero, List.set_cons_succ, i64_w, i32_w]
                      rfl
                    refine pure_ (i := 7) (N := some 43) (v := ?_) (a' := ?_) #[true, true, true, true, true, true, true, true, false, false, false, false, false, false, false] rfl rfl (any_of HT_.out (by kernel_rfl)) (fun _ _ _ h => h) (Or.inl ⟨by rfl, ?_⟩) ?_ ?_
                    rotate_left
                    · intro w'
                      go_simp
                      with_reducible rfl
                    rotate_left
                    · simp only [Act.put, List.setIfInBounds_toArray, List.set_cons_zero, List.set_cons_succ, i64_w, i32_w]
                      rfl
                    refine pure_ (i := 8) (N := some 44) (v := ?_) (a' := ?_) #[true, true, true, true, true, true, true, true, true, false, false, false, false, false, false] rfl rfl (any_of HT_.out (by kernel_rfl)) (fun _ _ _ h => h) (Or.inl ⟨by rfl, ?_⟩) ?_ ?_
                    rotate_left
                    · intro w'
                      go_simp
                      with_reducible rfl
                    rotate_left
                    · simp only [Act.put, List.setIfInBounds_toArray, List.set_cons_zero, List.set_cons_succ, i64_w, i32_w]
                      rfl
                    refine pure_ (i := 9) (N := some 45) (v := ?_) (a' := ?_) #[true, true, true, true, true, true, true, true, true, true, false, false, false, false, false] rfl rfl (any_of HT_.out (by kernel_rfl)) (fun _ _ _ h => h) (Or.inl ⟨by rfl, ?_⟩) ?_ ?_
                    rotate_left
                    · intro w'
                      go_simp
                      with_reducible rfl
                    rotate_left
                    · simp only [Act.put, List.setIfInBounds_toArray, List.set_cons_zero, List.set_cons_succ, i64_w, i32_w]
                      rfl
                    refine pure_ (i := 10) (N := some 46) (v := undef) (a' := ?_) #[true, true, true, true, true, true, true, true, true, true, true, false, false, false, false] rfl rfl (any_of HT_.out (by kernel_rfl)) (fun _ _ _ h => h) (Or.inr ⟨by rfl, rfl⟩) ?_ ?_
                    rotate_left
                    · simp only [Act.put, List.setIfInBounds_toArray, List.set_cons_zero, List.set_cons_succ, i64_w, i32_w]
                      rfl
                    refine pure_ (i := 11) (N := some 47) (v := undef) (a' := ?_) #[true, true, true, true, true, true, true, true, true, true, true, true, false, false, false] rfl rfl (any_of HT_.out (by kernel_rfl)) (fun _ _ _ h => h) (Or.inr ⟨by rfl, rfl⟩) ?_ ?_
                    rotate_left
                    · simp only [Act.put, List.setIfInBounds_toArray, List.set_cons_zero, List.set_cons_succ, i64_w, i32_w]
                      rfl
                    refine pure_ (i := 12) (N := some 48) (v := undef) (a' := ?_) #[true, true, true, true, true, true, true, true, true, true, true, true, true, false, false] rfl rfl (any_of HT_.out (by kernel_rfl)) (fun _ _ _ h => h) (Or.inr ⟨by rfl, rfl⟩) ?_ ?_
                    rotate_left
                    · simp only [Act.put, List.setIfInBounds_toArray, List.set_cons_zero, List.set_cons_succ, i64_w, i32_w]
                      rfl
                    refine pure_ (i := 13) (N := some 49) (v := ?_) (a' := ?_) #[true, true, true, true, true, true, true, true, true, true, true, true, true, true, false] rfl rfl (any_of HT_.out (by kernel_rfl)) (fun _ _ _ h => h) (Or.inl ⟨by rfl, ?_⟩) ?_ ?_
                    rotate_left
                    · intro w'
                      go_simp
                      with_reducible rfl
                    rotate_left
                    · simp only [Act.put, List.setIfInBounds_toArray, List.set_cons_zero, List.set_cons_succ, i64_w, i32_w]
                      rfl
                    refine pure_ (i := 14) (N := some 4) (v := ?_) (a' := ?_) #[true, true, true, true, true, true, true, true, true, true, true, true, true, true, true] rfl rfl (any_of HT_.out (by kernel_rfl)) (fun _ _ _ h => h) (Or.inl ⟨by rfl, ?_⟩) ?_ ?_
                    rotate_left
                    · intro w'
                      go_simp
                      with_reducible rfl
                    rotate_left
                    · simp only [Act.put, List.setIfInBounds_toArray, List.set_cons_zero, List.set_cons_succ, i64_w, i32_w]
                      rfl
                    refine done_ (done_of HT_.out (by kernel_rfl)) ?_
                    try go_wp2
                    go_ret
                    exact ⟨by first | rfl | (simp [errW_none, errW_some] <;> rfl) | (simp [*, errW_none, errW_some] <;> rfl), by repeat (first | (with_reducible first | exact HB.out | apply below_alloc | apply pw_below_drewN | apply below_drew1 | refine below_set ?_ GE149.out | refine below_set ?_ GE150.out) | exact HB.out)⟩
              · rw [if_neg c48] at H
                have c48b0 : decide (0 < t153) = false := decide_eq_false c48
                clear c48
                by_cases c86 : t154 > 0
                · rw [if_pos c86] at H
                  have c86b0 : decide (0 < t154) = true := decide_eq_true c86
                  clear c86
                  by_cases c87 : (t165 == t166) = true
                  · rw [if_pos c87] at H
                    have c87b0 : (t165 == t166) = true := c87
                    (try (have c87b1 : decide (t165 = t166) = true := by simpa using c87))
                    (try (have c87b2 : (t165 == t166) = true := by simpa using c87))
                    clear c87
                    replace H := Option.bind_eq_some_iff.mp H
                    obtain ⟨t175, A880, H⟩ := H
                    replace H : (some t175) = some r := H
                    have A88 := Aside0.mk A880
                    clear A880
                    obtain rfl := Option.some.inj H
                    try go_wp2
                    have n0_ := Aside0.mk (blk_drew BK149.out)
                    have n1_ := Aside0.mk (blk_drew BK150.out)
                    have n2_ := Aside0.mk (below_drew1 HB.out)
                    clear BK149
                    clear BK150
                    clear HB
                    have BK149 := n0_
                    have BK150 := n1_
                    have HB := n2_
                    clear n0_ n1_ n2_
                    refine start_ (n := 8) (S := fun w' => w'.cell? ⟨gb149, 0, none⟩ = some (.int .u64 t153) ∧ w'.cell? ⟨gb149, 1, none⟩ = some (.int .u64 t154) ∧ w'.cell? ⟨gb149, 2, none⟩ = some (.int .u64 t155) ∧ w'.cell? ⟨gb149, 3, none⟩ = some (.string t156) ∧ w'.cell? ⟨gb149, 4, none⟩ = some (.string t157) ∧ w'.cell? ⟨gb150, 0, none⟩ = some (.int .u64 t158) ∧ w'.cell? ⟨gb150, 1, none⟩ = some (.int .u64 t159) ∧ w'.cell? ⟨gb150, 2, none⟩ = some (.int .u64 t160) ∧ w'.cell? ⟨gb150, 3, none⟩ = some (.string t161) ∧ w'.cell? ⟨gb150, 4, none⟩ = some (.string t162)) (ds := []) #[false, false, false, false, false, false, false, false] (by kernel_rfl) rfl rfl ⟨(blk_cell BK149.out 0).trans rfl, (blk_cell BK149.out 1).trans rfl, (blk_cell BK149.out 2).trans rfl, (blk_cell BK149.out 3).trans rfl, (blk_cell BK149.out 4).trans rfl, (blk_cell BK150.out 0).trans rfl, (blk_cell BK150.out 1).trans rfl, (blk_cell BK150.out 2).trans rfl, (blk_cell BK150.out 3).trans rfl, (blk_cell BK150.out 4).trans rfl⟩ (fun hHeld => ?_); refine with_tabW laws_FnSemverTermCaretTilde.tab6 laws_FnSemverTermCaretTilde.bits6 (fun HT_ HW_ => ?_)
                    generalize wc.drew = w89 at BK149 BK150 HB hHeld ⊢
                    refine take_ (i := 0) (N := some 26) (v := ?_) (a' := ?_) #[true, false, false, false, false, false, false, false] rfl rfl (take_ofW HT_.out HW_.out (by kernel_rfl)) (fun _ _ _ h => h) (Or.inl ⟨by rfl, ?_⟩) hHeld ?_ ?_
                    rotate_left
                    · rintro w' ⟨s0, s1, s2, s3, s4, s5, s6, s7, s8, s9⟩
                      go_simp
                      with_reducible rfl
                    rotate_left
                    · simp only [Act.put, List.setIfInBounds_toArray, List.set_cons_zero, List.set_cons_succ, i64_w, i32_w]
                      rfl
                    refine take_ (i := 1) (N := some 27) (v := ?_) (a' := ?_) #[true, true, false, false, false, false, false, false] rfl rfl (take_ofW HT_.out HW_.out (by kernel_rfl)) (fun _ _ _ h => h) (Or.inl ⟨by rfl, ?_⟩) hHeld ?_ ?_
                    rotate_left
                    · rintro w' ⟨s0, s1, s2, s3, s4, s5, s6, s7, s8, s9⟩
                      go_simp
                      with_reducible rfl
                    rotate_left
                    · simp only [Act.put, List.setIfInBounds_toArray, List.set_cons_zero, List.set_cons_succ, i64_w, i32_w]
                      rfl
                    refine take_ (i := 3) (N := some 29) (v := ?_) (a' := ?_) #[true, true, false, true, false, false, false, false] rfl rfl (take_ofW HT_.out HW_.out (by kernel_rfl)) (fun _ _ _ h => h) (Or.inl ⟨by rfl, ?_⟩) hHeld ?_ ?_
                    rotate_left
                    · rintro w' ⟨s0, s1, s2, s3, s4, s5, s6, s7, s8, s9⟩
                      go_simp
                      with_reducible rfl
                    rotate_left
                    · simp only [Act.put, List.setIfInBounds_toArray, List.set_cons_zero, List.set_cons_succ, i64_w, i32_w]
                      rfl
                    refine take_ (i := 4) (N := some 30) (v := ?_) (a' := ?_) #[true, true, false, true, true, false, false, false] rfl rfl (take_ofW HT_.out HW_.out (by kernel_rfl)) (fun _ _ _ h => h) (Or.inl ⟨by rfl, ?_⟩) hHeld ?_ ?_
                    rotate_left
                    · rintro w' ⟨s0, s1, s2, s3, s4, s5, s6, s7, s8, s9⟩
                      go_simp
                      with_reducible rfl
                    rotate_left
                    · simp only [Act.put, List.setIfInBounds_toArray, List.set_cons_zero, List.set_cons_succ, i64_w, i32_w]
                      rfl
                    refine one_ (i := 2) (N := some 28) #[true, true, true, true, true, false, false, false] rfl rfl (one_of HT_.out (by kernel_rfl)) (by decide) (fun K hK => ?_)
                    refine goes_ Tryd.func61 (by kernel_rfl) rfl #[.int .i64 7, .agg #[.int .u64 t153, .int .u64 t154, .int .u64 t155, .string t156, .string t157], .int .i64 3, .agg #[.int .u64 t158, .int .u64 t159, .int .u64 t160, .string t161, .string t162]] (by rfl) rfl rfl (by (try simp only [List.map_toArray, List.map_cons, List.map_nil]); first | done | rfl | (simp only [List.length_drop, List.length_take]; rfl)) ?_
                    with_reducible refine (laws_stHolds.calls 7 t153 t154 t155 t156 t157 3 t158 t159 t160 t161 t162 t165 _ ?gl18 A46.out).mono ?_
                    case gl18 => (first | exact HG.out | exact Hand.Gl.below HG.out (by repeat (first | (with_reducible first | exact HB.out | apply below_alloc | apply pw_below_drewN | apply below_drew1) | exact HB.out)))
                    rintro e w90 ⟨rfl, hb⟩
                    refine ⟨_, rfl, ?_⟩
                    have n0_ := Aside0.mk (blk_below (g := gb149) (o := .cells #[.int .u64 t153, .int .u64 t154, .int .u64 t155, .string t156, .string t157] 29 (0, 0)) (by (with_reducible repeat (first | refine blk_drewN ?_ _ | refine blk_drew ?_ | refine blk_alloc ?_ _)); exact BK149.out) hb)
                    have n1_ := Aside0.mk (blk_below (g := gb150) (o := .cells #[.int .u64 t158, .int .u64 t159, .int .u64 t160, .string t161, .string t162] 29 (0, 0)) (by (with_reducible repeat (first | refine blk_drewN ?_ _ | refine blk_drew ?_ | refine blk_alloc ?_ _)); exact BK150.out) hb)
                    have n2_ := Aside0.mk (below_step (by repeat (first | (with_reducible first | exact HB.out | apply below_alloc | apply pw_below_drewN | apply below_drew1 | refine below_set ?_ GE149.out | refine below_set ?_ GE150.out) | exact HB.out)) hb)
                    clear BK149
                    clear BK150
                    clear HB
                    have BK149 := n0_
                    have BK150 := n1_
                    have HB := n2_
                    clear n0_ n1_ n2_
                    (try clear hb)
                    (try clear hb2)
                    (try clear hk)
                    (try clear hi)
                    refine hK.out _ _ ⟨(blk_cell BK149.out 0).trans rfl, (blk_cell BK149.out 1).trans rfl, (blk_cell BK149.out 2).trans rfl, (blk_cell BK149.out 3).trans rfl, (blk_cell BK149.out 4).trans rfl, (blk_cell BK150.out 0).trans rfl, (blk_cell BK150.out 1).trans rfl, (blk_cell BK150.out 2).trans rfl, (blk_cell BK150.out 3).trans rfl, (blk_cell BK150.out 4).trans rfl⟩ (fun hHeld => ?_)
                    clear hK K
                    refine norm_ (a' := ?_) ?_ ?_
                    rotate_left
                    · show Act.put _ (some 28) _ = _
                      simp only [Act.put, List.setIfInBounds_toArray, List.set_cons_zero, List.set_cons_succ, i64_w, i32_w]
                      rfl
                    refine one_ (i := 5) (N := some 31) #[true, true, true, true, true, true, false, false] rfl rfl (one_of HT_.out (by kernel_rfl)) (by decide) (fun K hK => ?_)
                    refine goes_ Tryd.func61 (by kernel_rfl) rfl #[.int .i64 6, .agg #[.int .u64 t153, .int .u64 t154, .int .u64 t155, .string t156, .string t157], .int .i64 3, .agg #[.int .u64 t158, .int .u64 t159, .int .u64 t160, .string t161, .string t162]] (by rfl) rfl rfl (by (try simp only [List.map_toArray, List.map_cons, List.map_nil]); first | done | rfl | (simp only [List.length_drop, List.length_take]; rfl)) ?_
                    with_reducible refine (laws_stHolds.calls 6 t153 t154 t155 t156 t157 3 t158 t159 t160 t161 t162 t166 _ ?gl19 A47.out).mono ?_
                    case gl19 => (first | exact HG.out | exact Hand.Gl.below HG.out (by repeat (first | (with_reducible first | exact HB.out | apply below_alloc | apply pw_below_drewN | apply below_drew1) | exact HB.out)))
                    rintro e w91 ⟨rfl, hb⟩
                    refine ⟨_, rfl, ?_⟩
                    have n0_ := Aside0.mk (blk_below (g := gb149) (o := .cells #[.int .u64 t153, .int .u64 t154, .int .u64 t155, .string t156, .string t157] 29 (0, 0)) (by (with_reducible repeat (first | refine blk_drewN ?_ _ | refine blk_drew ?_ | refine blk_alloc ?_ _)); exact BK149.out) hb)
                    have n1_ := Aside0.mk (blk_below (g := gb150) (o := .cells #[.int .u64 t158, .int .u64 t159, .int .u64 t160, .string t161, .string t162] 29 (0, 0)) (by (with_reducible repeat (first | refine blk_drewN ?_ _ | refine blk_drew ?_ | refine blk_alloc ?_ _)); exact BK150.out) hb)
                    have n2_ := Aside0.mk (below_step (by repeat (first | (with_reducible first | exact HB.out | apply below_alloc | apply pw_below_drewN | apply below_drew1 | refine below_set ?_ GE149.out | refine below_set ?_ GE150.out) | exact HB.out)) hb)
                    clear BK149
                    clear BK150
                    clear HB
                    have BK149 := n0_
                    have BK150 := n1_
                    have HB := n2_
                    clear n0_ n1_ n2_
                    (try clear hb)
                    (try clear hb2)
                    (try clear hk)
                    (try clear hi)
                    refine hK.out _ _ ⟨(blk_cell BK149.out 0).trans rfl, (blk_cell BK149.out 1).trans rfl, (blk_cell BK149.out 2).trans rfl, (blk_cell BK149.out 3).trans rfl, (blk_cell BK149.out 4).trans rfl, (blk_cell BK150.out 0).trans rfl, (blk_cell BK150.out 1).trans rfl, (blk_cell BK150.out 2).trans rfl, (blk_cell BK150.out 3).trans rfl, (blk_cell BK150.out 4).trans rfl⟩ (fun hHeld => ?_)
                    clear hK K
                    refine norm_ (a' := ?_) ?_ ?_
                    rotate_left
                    · show Act.put _ (some 31) _ = _
                      simp only [Act.put, List.setIfInBounds_toArray, List.set_cons_zero, List.set_cons_succ, i64_w, i32_w]
                      rfl
                    refine pure_ (i := 6) (N := some 5) (v := ?_) (a' := ?_) #[true, true, true, true, true, true, true, false] rfl rfl (any_of HT_.out (by kernel_rfl)) (fun _ _ _ h => h) (Or.inl ⟨by rfl, ?_⟩) ?_ ?_
                    rotate_left
                    · intro w'
                      go_simp
                      with_reducible rfl
                    rotate_left
                    · simp only [Act.put, List.setIfInBounds_toArray, List.set_cons_zero, List.set_cons_succ, i64_w, i32_w]
                      rfl
                    refine pure_ (i := 7) (N := some 6) (v := ?_) (a' := ?_) #[true, true, true, true, true, true, true, true] rfl rfl (any_of HT_.out (by kernel_rfl)) (fun _ _ _ h => h) (Or.inl ⟨by rfl, ?_⟩) ?_ ?_
                    rotate_left
                    · intro w'
                      go_simp
                      with_reducible rfl
                    rotate_left
                    · simp only [Act.put, List.setIfInBounds_toArray, List.set_cons_zero, List.set_cons_succ, i64_w, i32_w]
                      rfl
                    refine done_ (done_of HT_.out (by kernel_rfl)) ?_
                    have hnb92 := NB149_150.out
                    have hnc92 := NB150_149.out
                    have hcz93_0 : w91.cell? ⟨gb149, 0, none⟩ = some (.int .u64 t153) := (blk_cell BK149.out 0).trans rfl
                    have hcz93_1 : w91.cell? ⟨gb149, 1, none⟩ = some (.int .u64 t154) := (blk_cell BK149.out 1).trans rfl
                    have hcz93_2 : w91.cell? ⟨gb149, 2, none⟩ = some (.int .u64 t155) := (blk_cell BK149.out 2).trans rfl
                    have hcz93_3 : w91.cell? ⟨gb149, 3, none⟩ = some (.string t156) := (blk_cell BK149.out 3).trans rfl
                    have hcz93_4 : w91.cell? ⟨gb149, 4, none⟩ = some (.string t157) := (blk_cell BK149.out 4).trans rfl
                    have hfz93_0 := blk_frozen BK149.out 0
                    have hfz93_1 := blk_frozen BK149.out 1
                    have hfz93_2 := blk_frozen BK149.out 2
                    have hfz93_3 := blk_frozen BK149.out 3
                    have hfz93_4 := blk_frozen BK149.out 4
                    try go_wp2_with (first | (go_at_call 61; (with_reducible refine (laws_stHolds.calls 7 t153 t154 t155 t156 t157 3 t153 t154 t155 t156 t157 t175 _ ?gl2 A88.out).mono ?_); (case gl2 => first | exact HG.out | exact Hand.Gl.below HG.out (by repeat (first | (with_reducible first | exact HB.out | apply below_alloc | apply pw_below_drewN | apply below_drew1) | exact HB.out))); rintro e w94 ⟨rfl, hb⟩; have n0_ := Aside0.mk (blk_below (g := gb149) (o := .cells #[.int .u64 t153, .int .u64 t154, .int .u64 t155, .string t156, .string t157] 29 (0, 0)) (by (with_reducible repeat (first | refine blk_drewN ?_ _ | refine blk_drew ?_ | refine blk_alloc ?_ _)); exact BK149.out) hb); have n1_ := Aside0.mk (blk_below (g := gb150) (o := .cells #[.int .u64 t158, .int .u64 t159, .int .u64 t160, .string t161, .string t162] 29 (0, 0)) (by (with_reducible repeat (first | refine blk_drewN ?_ _ | refine blk_drew ?_ | refine blk_alloc ?_ _)); exact BK150.out) hb); have n2_ := Aside0.mk (below_step (by repeat (first | (with_reducible first | exact HB.out | apply below_alloc | apply pw_below_drewN | apply below_drew1 | refine below_set ?_ GE149.out | refine below_set ?_ GE150.out) | exact HB.out)) hb); clear BK149; clear BK150; clear HB; have BK149 := n0_; have BK150 := n1_; have HB := n2_; clear n0_ n1_ n2_; (try clear hb); (try clear hb2); (try clear hk); (try clear hi)))
                    go_ret
                    exact ⟨by first | rfl | (simp [errW_none, errW_some] <;> rfl) | (simp [*, errW_none, errW_some] <;> rfl), by repeat (first | (with_reducible first | exact HB.out | apply below_alloc | apply pw_below_drewN | apply below_drew1 | refine below_set ?_ GE149.out | refine below_set ?_ GE150.out) | exact HB.out)⟩
                  · rw [if_neg c87] at H
                    have c87b0 : (t165 == t166) = false := by simpa using c87
                    (try (have c87b1 : decide (t165 = t166) = false := by simpa using c87))
                    (try (have c87b2 : (t165 == t166) = false := by simpa using c87))
                    (try (have c87b3 : ¬ (t165 = t166) := by simpa using c87))
                    clear c87
                    obtain rfl := Option.some.inj H
                    try go_wp2
                    have n0_ := Aside0.mk (blk_drew BK149.out)
                    have n1_ := Aside0.mk (blk_drew BK150.out)
                    have n2_ := Aside0.mk (below_drew1 HB.out)
                    clear BK149
                    clear BK150
                    clear HB
                    have BK149 := n0_
                    have BK150 := n1_
                    have HB := n2_
                    clear n0_ n1_ n2_
                    refine start_ (n := 8) (S := fun w' => w'.cell? ⟨gb149, 0, none⟩ = some (.int .u64 t153) ∧ w'.cell? ⟨gb149, 1, none⟩ = some (.int .u64 t154) ∧ w'.cell? ⟨gb149, 2, none⟩ = some (.int .u64 t155) ∧ w'.cell? ⟨gb149, 3, none⟩ = some (.string t156) ∧ w'.cell? ⟨gb149, 4, none⟩ = some (.string t157) ∧ w'.cell? ⟨gb150, 0, none⟩ = some (.int .u64 t158) ∧ w'.cell? ⟨gb150, 1, none⟩ = some (.int .u64 t159) ∧ w'.cell? ⟨gb150, 2, none⟩ = some (.int .u64 t160) ∧ w'.cell? ⟨gb150, 3, none⟩ = some (.string t161) ∧ w'.cell? ⟨gb150, 4, none⟩ = some (.string t162)) (ds := []) #[false, false, false, false, false, false, false, false] (by kernel_rfl) rfl rfl ⟨(blk_cell BK149.out 0).trans rfl, (blk_cell BK149.out 1).trans rfl, (blk_cell BK149.out 2).trans rfl, (blk_cell BK149.out 3).trans rfl, (blk_cell BK149.out 4).trans rfl, (blk_cell BK150.out 0).trans rfl, (blk_cell BK150.out 1).trans rfl, (blk_cell BK150.out 2).trans rfl, (blk_cell BK150.out 3).trans rfl, (blk_cell BK150.out 4).trans rfl⟩ (fun hHeld => ?_); refine with_tabW laws_FnSemverTermCaretTilde.tab6 laws_FnSemverTermCaretTilde.bits6 (fun HT_ HW_ => ?_)
                    generalize wc.drew = w95 at BK149 BK150 HB hHeld ⊢
                    refine take_ (i := 0) (N := some 26) (v := ?_) (a' := ?_) #[true, false, false, false, false, false, false, false] rfl rfl (take_ofW HT_.out HW_.out (by kernel_rfl)) (fun _ _ _ h => h) (Or.inl ⟨by rfl, ?_⟩) hHeld ?_ ?_
                    rotate_left
                    · rintro w' ⟨s0, s1, s2, s3, s4, s5, s6, s7, s8, s9⟩
                      go_simp
                      with_reducible rfl
                    rotate_left
                    · simp only [Act.put, List.setIfInBounds_toArray, List.set_cons_zero, List.set_cons_succ, i64_w, i32_w]
                      rfl
                    refine take_ (i := 1) (N := some 27) (v := ?_) (a' := ?_) #[true, true, false, false, false, false, false, false] rfl rfl (take_ofW HT_.out HW_.out (by kernel_rfl)) (fun _ _ _ h => h) (Or.inl ⟨by rfl, ?_⟩) hHeld ?_ ?_
                    rotate_left
                    · rintro w' ⟨s0, s1, s2, s3, s4, s5, s6, s7, s8, s9⟩
                      go_simp
                      with_reducible rfl
                    rotate_left
                    · simp only [Act.put, List.setIfInBounds_toArray, List.set_cons_zero, List.set_cons_succ, i64_w, i32_w]
                      rfl
                    refine take_ (i := 3) (N := some 29) (v := ?_) (a' := ?_) #[true, true, false, true, false, false, false, false] rfl rfl (take_ofW HT_.out HW_.out (by kernel_rfl)) (fun _ _ _ h => h) (Or.inl ⟨by rfl, ?_⟩) hHeld ?_ ?_
                    rotate_left
                    · rintro w' ⟨s0, s1, s2, s3, s4, s5, s6, s7, s8, s9⟩
                      go_simp
                      with_reducible rfl
                    rotate_left
                    · simp only [Act.put, List.setIfInBounds_toArray, List.set_cons_zero, List.set_cons_succ, i64_w, i32_w]
                      rfl
                    refine take_ (i := 4) (N := some 30) (v := ?_) (a' := ?_) #[true, true, false, true, true, false, false, false] rfl rfl (take_ofW HT_.out HW_.out (by kernel_rfl)) (fun _ _ _ h => h) (Or.inl ⟨by rfl, ?_⟩) hHeld ?_ ?_
                    rotate_left
                    · rintro w' ⟨s0, s1, s2, s3, s4, s5, s6, s7, s8, s9⟩
                      go_simp
                      with_reducible rfl
                    rotate_left
                    · simp only [Act.put, List.setIfInBounds_toArray, List.set_cons_zero, List.set_cons_succ, i64_w, i32_w]
                      rfl
                    refine one_ (i := 2) (N := some 28) #[true, true, true, true, true, false, false, false] rfl rfl (one_of HT_.out (by kernel_rfl)) (by decide) (fun K hK => ?_)
                    refine goes_ Tryd.func61 (by kernel_rfl) rfl #[.int .i64 7, .agg #[.int .u64 t153, .int .u64 t154, .int .u64 t155, .string t156, .string t157], .int .i64 3, .agg #[.int .u64 t158, .int .u64 t159, .int .u64 t160, .string t161, .string t162]] (by rfl) rfl rfl (by (try simp only [List.map_toArray, List.map_cons, List.map_nil]); first | done | rfl | (simp only [List.length_drop, List.length_take]; rfl)) ?_
                    with_reducible refine (laws_stHolds.calls 7 t153 t154 t155 t156 t157 3 t158 t159 t160 t161 t162 t165 _ ?gl20 A46.out).mono ?_
                    case gl20 => (first | exact HG.out | exact Hand.Gl.below HG.out (by repeat (first | (with_reducible first | exact HB.out | apply below_alloc | apply pw_below_drewN | apply below_drew1) | exact HB.out)))
                    rintro e w96 ⟨rfl, hb⟩
                    refine ⟨_, rfl, ?_⟩
                    have n0_ := Aside0.mk (blk_below (g := gb149) (o := .cells #[.int .u64 t153, .int .u64 t154, .int .u64 t155, .string t156, .string t157] 29 (0, 0)) (by (with_reducible repeat (first | refine blk_drewN ?_ _ | refine blk_drew ?_ | refine blk_alloc ?_ _)); exact BK149.out) hb)
                    have n1_ := Aside0.mk (blk_below (g := gb150) (o := .cells #[.int .u64 t158, .int .u64 t159, .int .u64 t160, .string t161, .string t162] 29 (0, 0)) (by (with_reducible repeat (first | refine blk_drewN ?_ _ | refine blk_drew ?_ | refine blk_alloc ?_ _)); exact BK150.out) hb)
                    have n2_ := Aside0.mk (below_step (by repeat (first | (with_reducible first | exact HB.out | apply below_alloc | apply pw_below_drewN | apply below_drew1 | refine below_set ?_ GE149.out | refine below_set ?_ GE150.out) | exact HB.out)) hb)
                    clear BK149
                    clear BK150
                    clear HB
                    have BK149 := n0_
                    have BK150 := n1_
                    have HB := n2_
                    clear n0_ n1_ n2_
                    (try clear hb)
                    (try clear hb2)
                    (try clear hk)
                    (try clear hi)
                    refine hK.out _ _ ⟨(blk_cell BK149.out 0).trans rfl, (blk_cell BK149.out 1).trans rfl, (blk_cell BK149.out 2).trans rfl, (blk_cell BK149.out 3).trans rfl, (blk_cell BK149.out 4).trans rfl, (blk_cell BK150.out 0).trans rfl, (blk_cell BK150.out 1).trans rfl, (blk_cell BK150.out 2).trans rfl, (blk_cell BK150.out 3).trans rfl, (blk_cell BK150.out 4).trans rfl⟩ (fun hHeld => ?_)
                    clear hK K
                    refine norm_ (a' := ?_) ?_ ?_
                    rotate_left
                    · show Act.put _ (some 28) _ = _
                      simp only [Act.put, List.setIfInBounds_toArray, List.set_cons_zero, List.set_cons_succ, i64_w, i32_w]
                      rfl
                    refine one_ (i := 5) (N := some 31) #[true, true, true, true, true, true, false, false] rfl rfl (one_of HT_.out (by kernel_rfl)) (by decide) (fun K hK => ?_)
                    refine goes_ Tryd.func61 (by kernel_rfl) rfl #[.int .i64 6, .agg #[.int .u64 t153, .int .u64 t154, .int .u64 t155, .string t156, .string t157], .int .i64 3, .agg #[.int .u64 t158, .int .u64 t159, .int .u64 t160, .string t161, .string t162]] (by rfl) rfl rfl (by (try simp only [List.map_toArray, List.map_cons, List.map_nil]); first | done | rfl | (simp only [List.length_drop, List.length_take]; rfl)) ?_
                    with_reducible refine (laws_stHolds.calls 6 t153 t154 t155 t156 t157 3 t158 t159 t160 t161 t162 t166 _ ?gl21 A47.out).mono ?_
                    case gl21 => (first | exact HG.out | exact Hand.Gl.below HG.out (by repeat (first | (with_reducible first | exact HB.out | apply below_alloc | apply pw_below_drewN | apply below_drew1) | exact HB.out)))
                    rintro e w97 ⟨rfl, hb⟩
                    refine ⟨_, rfl, ?_⟩
                    have n0_ := Aside0.mk (blk_below (g := gb149) (o := .cells #[.int .u64 t153, .int .u64 t154, .int .u64 t155, .string t156, .string t157] 29 (0, 0)) (by (with_reducible repeat (first | refine blk_drewN ?_ _ | refine blk_drew ?_ | refine blk_alloc ?_ _)); exact BK149.out) hb)
                    have n1_ := Aside0.mk (blk_below (g := gb150) (o := .cells #[.int .u64 t158, .int .u64 t159, .int .u64 t160, .string t161, .string t162] 29 (0, 0)) (by (with_reducible repeat (first | refine blk_drewN ?_ _ | refine blk_drew ?_ | refine blk_alloc ?_ _)); exact BK150.out) hb)
                    have n2_ := Aside0.mk (below_step (by repeat (first | (with_reducible first | exact HB.out | apply below_alloc | apply pw_below_drewN | apply below_drew1 | refine below_set ?_ GE149.out | refine below_set ?_ GE150.out) | exact HB.out)) hb)
                    clear BK149
                    clear BK150
                    clear HB
                    have BK149 := n0_
                    have BK150 := n1_
                    have HB := n2_
                    clear n0_ n1_ n2_
                    (try clear hb)
                    (try clear hb2)
                    (try clear hk)
                    (try clear hi)
                    refine hK.out _ _ ⟨(blk_cell BK149.out 0).trans rfl, (blk_cell BK149.out 1).trans rfl, (blk_cell BK149.out 2).trans rfl, (blk_cell BK149.out 3).trans rfl, (blk_cell BK149.out 4).trans rfl, (blk_cell BK150.out 0).trans rfl, (blk_cell BK150.out 1).trans rfl, (blk_cell BK150.out 2).trans rfl, (blk_cell BK150.out 3).trans rfl, (blk_cell BK150.out 4).trans rfl⟩ (fun hHeld => ?_)
                    clear hK K
                    refine norm_ (a' := ?_) ?_ ?_
                    rotate_left
                    · show Act.put _ (some 31) _ = _
                      simp only [Act.put, List.setIfInBounds_toArray, List.set_cons_zero, List.set_cons_succ, i64_w, i32_w]
                      rfl
                    refine pure_ (i := 6) (N := some 5) (v := ?_) (a' := ?_) #[true, true, true, true, true, true, true, false] rfl rfl (any_of HT_.out (by kernel_rfl)) (fun _ _ _ h => h) (Or.inl ⟨by rfl, ?_⟩) ?_ ?_
                    rotate_left
                    · intro w'
                      go_simp
                      with_reducible rfl
                    rotate_left
                    · simp only [Act.put, List.setIfInBounds_toArray, List.set_cons_zero, List.set_cons_succ, i64_w, i32_w]
                      rfl
                    refine pure_ (i := 7) (N := some 6) (v := ?_) (a' := ?_) #[true, true, true, true, true, true, true, true] rfl rfl (any_of HT_.out (by kernel_rfl)) (fun _ _ _ h => h) (Or.inl ⟨by rfl, ?_⟩) ?_ ?_
                    rotate_left
                    · intro w'
                      go_simp
                      with_reducible rfl
                    rotate_left
                    · simp only [Act.put, List.setIfInBounds_toArray, List.set_cons_zero, List.set_cons_succ, i64_w, i32_w]
                      rfl
                    refine done_ (done_of HT_.out (by kernel_rfl)) ?_
                    have hnb98 := NB149_150.out
                    have hnc98 := NB150_149.out
                    have hcz99_0 : w97.cell? ⟨gb149, 0, none⟩ = some (.int .u64 t153) := (blk_cell BK149.out 0).trans rfl
                    have hcz99_1 : w97.cell? ⟨gb149, 1, none⟩ = some (.int .u64 t154) := (blk_cell BK149.out 1).trans rfl
                    have hcz99_2 : w97.cell? ⟨gb149, 2, none⟩ = some (.int .u64 t155) := (blk_cell BK149.out 2).trans rfl
                    have hcz99_3 : w97.cell? ⟨gb149, 3, none⟩ = some (.string t156) := (blk_cell BK149.out 3).trans rfl
                    have hcz99_4 : w97.cell? ⟨gb149, 4, none⟩ = some (.string t157) := (blk_cell BK149.out 4).trans rfl
                    have hfz99_0 := blk_frozen BK149.out 0
                    have hfz99_1 := blk_frozen BK149.out 1
                    have hfz99_2 := blk_frozen BK149.out 2
                    have hfz99_3 := blk_frozen BK149.out 3
                    have hfz99_4 := blk_frozen BK149.out 4
                    try go_wp2
                    go_ret
                    exact ⟨by first | rfl | (simp [errW_none, errW_some] <;> rfl) | (simp [*, errW_none, errW_some] <;> rfl), by repeat (first | (with_reducible first | exact HB.out | apply below_alloc | apply pw_below_drewN | apply below_drew1 | refine below_set ?_ GE149.out | refine below_set ?_ GE150.out) | exact HB.out)⟩
                · rw [if_neg c86] at H
                  have c86b0 : decide (0 < t154) = false := decide_eq_false c86
                  clear c86
                  replace H := Option.bind_eq_some_iff.mp H
                  obtain ⟨t176, A1000, H⟩ := H
                  replace H : (if (t165 == t176) = true then ((laws_stHolds.f 7 t153 t154 t155 t156 t157 3 t153 t154 t155 t156 t157).bind fun t177 => (some t177)) else (some false)) = some r := H
                  have A100 := Aside0.mk A1000
                  clear A1000
                  by_cases c101 : (t165 == t176) = true
                  · rw [if_pos c101] at H
                    have c101b0 : (t165 == t176) = true := c101
                    (try (have c101b1 : decide (t165 = t176) = true := by simpa using c101))
                    (try (have c101b2 : (t165 == t176) = true := by simpa using c101))
                    clear c101
                    replace H := Option.bind_eq_some_iff.mp H
                    obtain ⟨t177, A1020, H⟩ := H
                    replace H : (some t177) = some r := H
                    have A102 := Aside0.mk A1020
                    clear A1020
                    obtain rfl := Option.some.inj H
                    try go_wp2
                    have n0_ := Aside0.mk (blk_drew BK149.out)
                    have n1_ := Aside0.mk (blk_drew BK150.out)
                    have n2_ := Aside0.mk (below_drew1 HB.out)
                    clear BK149
                    clear BK150
                    clear HB
                    have BK149 := n0_
                    have BK150 := n1_
                    have HB := n2_
                    clear n0_ n1_ n2_
                    refine start_ (n := 8) (S := fun w' => w'.cell? ⟨gb149, 0, none⟩ = some (.int .u64 t153) ∧ w'.cell? ⟨gb149, 1, none⟩ = some (.int .u64 t154) ∧ w'.cell? ⟨gb149, 2, none⟩ = some (.int .u64 t155) ∧ w'.cell? ⟨gb149, 3, none⟩ = some (.string t156) ∧ w'.cell? ⟨gb149, 4, none⟩ = some (.string t157) ∧ w'.cell? ⟨gb150, 0, none⟩ = some (.int .u64 t158) ∧ w'.cell? ⟨gb150, 1, none⟩ = some (.int .u64 t159) ∧ w'.cell? ⟨gb150, 2, none⟩ = some (.int .u64 t160) ∧ w'.cell? ⟨gb150, 3, none⟩ = some (.string t161) ∧ w'.cell? ⟨gb150, 4, none⟩ = some (.string t162)) (ds := []) #[false, false, false, false, false, false, false, false] (by kernel_rfl) rfl rfl ⟨(blk_cell BK149.out 0).trans rfl, (blk_cell BK149.out 1).trans rfl, (blk_cell BK149.out 2).trans rfl, (blk_cell BK149.out 3).trans rfl, (blk_cell BK149.out 4).trans rfl, (blk_cell BK150.out 0).trans rfl, (blk_cell BK150.out 1).trans rfl, (blk_cell BK150.out 2).trans rfl, (blk_cell BK150.out 3).trans rfl, (blk_cell BK150.out 4).trans rfl⟩ (fun hHeld => ?_); refine with_tabW laws_FnSemverTermCaretTilde.tab6 laws_FnSemverTermCaretTilde.bits6 (fun HT_ HW_ => ?_)
                    generalize wc.drew = w103 at BK149 BK150 HB hHeld ⊢
                    refine take_ (i := 0) (N := some 26) (v := ?_) (a' := ?_) #[true, false, false, false, false, false, false, false] rfl rfl (take_ofW HT_.out HW_.out (by kernel_rfl)) (fun _ _ _ h => h) (Or.inl ⟨by rfl, ?_⟩) hHeld ?_ ?_
                    rotate_left
                    · rintro w' ⟨s0, s1, s2, s3, s4, s5, s6, s7, s8, s9⟩
                      go_simp
                      with_reducible rfl
                    rotate_left
                    · simp only [Act.put, List.setIfInBounds_toArray, List.set_cons_zero, List.set_cons_succ, i64_w, i32_w]
                      rfl
                    refine take_ (i := 1) (N := some 27) (v := ?_) (a' := ?_) #[true, true, false, false, false, false, false, false] rfl rfl (take_ofW HT_.out HW_.out (by kernel_rfl)) (fun _ _ _ h => h) (Or.inl ⟨by rfl, ?_⟩) hHeld ?_ ?_
                    rotate_left
                    · rintro w' ⟨s0, s1, s2, s3, s4, s5, s6, s7, s8, s9⟩
                      go_simp
                      with_reducible rfl
                    rotate_left
                    · simp only [Act.put, List.setIfInBounds_toArray, List.set_cons_zero, List.set_cons_succ, i64_w, i32_w]
                      rfl
                    refine take_ (i := 3) (N := some 29) (v := ?_) (a' := ?_) #[true, true, false, true, false, false, false, false] rfl rfl (take_ofW HT_.out HW_.out (by kernel_rfl)) (fun _ _ _ h => h) (Or.inl ⟨by rfl, ?_⟩) hHeld ?_ ?_
                    rotate_left
                    · rintro w' ⟨s0, s1, s2, s3, s4, s5, s6, s7, s8, s9⟩
                      go_simp
                      with_reducible rfl
                    rotate_left
                    · simp only [Act.put, List.setIfInBounds_toArray, List.set_cons_zero, List.set_cons_succ, i64_w, i32_w]
                      rfl
                    refine take_ (i := 4) (N := some 30) (v := ?_) (a' := ?_) #[true, true, false, true, true, false, false, false] rfl rfl (take_ofW HT_.out HW_.out (by kernel_rfl)) (fun _ _ _ h => h) (Or.inl ⟨by rfl, ?_⟩) hHeld ?_ ?_
                    rotate_left
                    · rintro w' ⟨s0, s1, s2, s3, s4, s5, s6, s7, s8, s9⟩
                      go_simp
                      with_reducible rfl
                    rotate_left
                    · simp only [Act.put, List.setIfInBounds_toArray, List.set_cons_zero, List.set_cons_succ, i64_w, i32_w]
                      rfl
                    refine one_ (i := 2) (N := some 28) #[true, true, true, true, true, false, false, false] rfl rfl (one_of HT_.out (by kernel_rfl)) (by decide) (fun K hK => ?_)
                    refine goes_ Tryd.func61 (by kernel_rfl) rfl #[.int .i64 7, .agg #[.int .u64 t153, .int .u64 t154, .int .u64 t155, .string t156, .string t157], .int .i64 3, .agg #[.int .u64 t158, .int .u64 t159, .int .u64 t160, .string t161, .string t162]] (by rfl) rfl rfl (by (try simp only [List.map_toArray, List.map_cons, List.map_nil]); first | done | rfl | (simp only [List.length_drop, List.length_take]; rfl)) ?_
                    with_reducible refine (laws_stHolds.calls 7 t153 t154 t155 t156 t157 3 t158 t159 t160 t161 t162 t165 _ ?gl22 A46.out).mono ?_
                    case gl22 => (first | exact HG.out | exact Hand.Gl.below HG.out (by repeat (first | (with_reducible first | exact HB.out | apply below_alloc | apply pw_below_drewN | apply below_drew1) | exact HB.out)))
                    rintro e w104 ⟨rfl, hb⟩
                    refine ⟨_, rfl, ?_⟩
                    have n0_ := Aside0.mk (blk_below (g := gb149) (o := .cells #[.int .u64 t153, .int .u64 t154, .int .u64 t155, .string t156, .string t157] 29 (0, 0)) (by (with_reducible repeat (first | refine blk_drewN ?_ _ | refine blk_drew ?_ | refine blk_alloc ?_ _)); exact BK149.out) hb)
                    have n1_ := Aside0.mk (blk_below (g := gb150) (o := .cells #[.int .u64 t158, .int .u64 t159, .int .u64 t160, .string t161, .string t162] 29 (0, 0)) (by (with_reducible repeat (first | refine blk_drewN ?_ _ | refine blk_drew ?_ | refine blk_alloc ?_ _)); exact BK150.out) hb)
                    have n2_ := Aside0.mk (below_step (by repeat (first | (with_reducible first | exact HB.out | apply below_alloc | apply pw_below_drewN | apply below_drew1 | refine below_set ?_ GE149.out | refine below_set ?_ GE150.out) | exact HB.out)) hb)
                    clear BK149
                    clear BK150
                    clear HB
                    have BK149 := n0_
                    have BK150 := n1_
                    have HB := n2_
                    clear n0_ n1_ n2_
                    (try clear hb)
                    (try clear hb2)
                    (try clear hk)
                    (try clear hi)
                    refine hK.out _ _ ⟨(blk_cell BK149.out 0).trans rfl, (blk_cell BK149.out 1).trans rfl, (blk_cell BK149.out 2).trans rfl, (blk_cell BK149.out 3).trans rfl, (blk_cell BK149.out 4).trans rfl, (blk_cell BK150.out 0).trans rfl, (blk_cell BK150.out 1).trans rfl, (blk_cell BK150.out 2).trans rfl, (blk_cell BK150.out 3).trans rfl, (blk_cell BK150.out 4).trans rfl⟩ (fun hHeld => ?_)
                    clear hK K
                    refine norm_ (a' := ?_) ?_ ?_
                    rotate_left
                    · show Act.put _ (some 28) _ = _
                      simp only [Act.put, List.setIfInBounds_toArray, List.set_cons_zero, List.set_cons_succ, i64_w, i32_w]
                      rfl
                    refine one_ (i := 5) (N := some 31) #[true, true, true, true, true, true, false, false] rfl rfl (one_of HT_.out (by kernel_rfl)) (by decide) (fun K hK => ?_)
                    refine goes_ Tryd.func61 (by kernel_rfl) rfl #[.int .i64 6, .agg #[.int .u64 t153, .int .u64 t154, .int .u64 t155, .string t156, .string t157], .int .i64 3, .agg #[.int .u64 t158, .int .u64 t159, .int .u64 t160, .string t161, .string t162]] (by rfl) rfl rfl (by (try simp only [List.map_toArray, List.map_cons, List.map_nil]); first | done | rfl | (simp only [List.length_drop, List.length_take]; rfl)) ?_
                    with_reducible refine (laws_stHolds.calls 6 t153 t154 t155 t156 t157 3 t158 t159 t160 t161 t162 t166 _ ?gl23 A47.out).mono ?_
                    case gl23 => (first | exact HG.out | exact Hand.Gl.below HG.out (by repeat (first | (with_reducible first | exact HB.out | apply below_alloc | apply pw_below_drewN | apply below_drew1) | exact HB.out)))
                    rintro e w105 ⟨rfl, hb⟩
                    refine ⟨_, rfl, ?_⟩
                    have n0_ := Aside0.mk (blk_below (g := gb149) (o := .cells #[.int .u64 t153, .int .u64 t154, .int .u64 t155, .string t156, .string t157] 29 (0, 0)) (by (with_reducible repeat (first | refine blk_drewN ?_ _ | refine blk_drew ?_ | refine blk_alloc ?_ _)); exact BK149.out) hb)
                    have n1_ := Aside0.mk (blk_below (g := gb150) (o := .cells #[.int .u64 t158, .int .u64 t159, .int .u64 t160, .string t161, .string t162] 29 (0, 0)) (by (with_reducible repeat (first | refine blk_drewN ?_ _ | refine blk_drew ?_ | refine blk_alloc ?_ _)); exact BK150.out) hb)
                    have n2_ := Aside0.mk (below_step (by repeat (first | (with_reducible first | exact HB.out | apply below_alloc | apply pw_below_drewN | apply below_drew1 | refine below_set ?_ GE149.out | refine below_set ?_ GE150.out) | exact HB.out)) hb)
                    clear BK149
                    clear BK150
                    clear HB
                    have BK149 := n0_
                    have BK150 := n1_
                    have HB := n2_
                    clear n0_ n1_ n2_
                    (try clear hb)
                    (try clear hb2)
                    (try clear hk)
                    (try clear hi)
                    refine hK.out _ _ ⟨(blk_cell BK149.out 0).trans rfl, (blk_cell BK149.out 1).trans rfl, (blk_cell BK149.out 2).trans rfl, (blk_cell BK149.out 3).trans rfl, (blk_cell BK149.out 4).trans rfl, (blk_cell BK150.out 0).trans rfl, (blk_cell BK150.out 1).trans rfl, (blk_cell BK150.out 2).trans rfl, (blk_cell BK150.out 3).trans rfl, (blk_cell BK150.out 4).trans rfl⟩ (fun hHeld => ?_)
                    clear hK K
                    refine norm_ (a' := ?_) ?_ ?_
                    rotate_left
                    · show Act.put _ (some 31) _ = _
                      simp only [Act.put, List.setIfInBounds_toArray, List.set_cons_zero, List.set_cons_succ, i64_w, i32_w]
                      rfl
                    refine pure_ (i := 6) (N := some 5) (v := ?_) (a' := ?_) #[true, true, true, true, true, true, true, false] rfl rfl (any_of HT_.out (by kernel_rfl)) (fun _ _ _ h => h) (Or.inl ⟨by rfl, ?_⟩) ?_ ?_
                    rotate_left
                    · intro w'
                      go_simp
                      with_reducible rfl
                    rotate_left
                    · simp only [Act.put, List.setIfInBounds_toArray, List.set_cons_zero, List.set_cons_succ, i64_w, i32_w]
                      rfl
                    refine pure_ (i := 7) (N := some 6) (v := ?_) (a' := ?_) #[true, true, true, true, true, true, true, true] rfl rfl (any_of HT_.out (by kernel_rfl)) (fun _ _ _ h => h) (Or.inl ⟨by rfl, ?_⟩) ?_ ?_
                    rotate_left
                    · intro w'
                      go_simp
                      with_reducible rfl
                    rotate_left
                    · simp only [Act.put, List.setIfInBounds_toArray, List.set_cons_zero, List.set_cons_succ, i64_w, i32_w]
                      rfl
                    refine done_ (done_of HT_.out (by kernel_rfl)) ?_
                    have hnb106 := NB149_150.out
                    have hnc106 := NB150_149.out
                    have hcz107_0 : w105.cell? ⟨gb149, 0, none⟩ = some (.int .u64 t153) := (blk_cell BK149.out 0).trans rfl
                    have hcz107_1 : w105.cell? ⟨gb149, 1, none⟩ = some (.int .u64 t154) := (blk_cell BK149.out 1).trans rfl
                    have hcz107_2 : w105.cell? ⟨gb149, 2, none⟩ = some (.int .u64 t155) := (blk_cell BK149.out 2).trans rfl
                    have hcz107_3 : w105.cell? ⟨gb149, 3, none⟩ = some (.string t156) := (blk_cell BK149.out 3).trans rfl
                    have hcz107_4 : w105.cell? ⟨gb149, 4, none⟩ = some (.string t157) := (blk_cell BK149.out 4).trans rfl
                    have hfz107_0 := blk_frozen BK149.out 0
                    have hfz107_1 := blk_frozen BK149.out 1
                    have hfz107_2 := blk_frozen BK149.out 2
                    have hfz107_3 := blk_frozen BK149.out 3
                    have hfz107_4 := blk_frozen BK149.out 4
                    have hcz108_0 : w105.cell? ⟨gb150, 0, none⟩ = some (.int .u64 t158) := (blk_cell BK150.out 0).trans rfl
                    have hcz108_1 : w105.cell? ⟨gb150, 1, none⟩ = some (.int .u64 t159) := (blk_cell BK150.out 1).trans rfl
                    have hcz108_2 : w105.cell? ⟨gb150, 2, none⟩ = some (.int .u64 t160) := (blk_cell BK150.out 2).trans rfl
                    have hcz108_3 : w105.cell? ⟨gb150, 3, none⟩ = some (.string t161) := (blk_cell BK150.out 3).trans rfl
                    have hcz108_4 : w105.cell? ⟨gb150, 4, none⟩ = some (.string t162) := (blk_cell BK150.out 4).trans rfl
                    have hfz108_0 := blk_frozen BK150.out 0
                    have hfz108_1 := blk_frozen BK150.out 1
                    have hfz108_2 := blk_frozen BK150.out 2
                    have hfz108_3 := blk_frozen BK150.out 3
                    have hfz108_4 := blk_frozen BK150.out 4
                    try go_wp2_with (first | ((with_reducible refine gate_callee (f := 61) rfl ?_); refine goesL_ (some 65) rfl rfl Tryd.func61 (by kernel_rfl) rfl #[.int .i64 0, .agg #[.int .u64 t153, .int .u64 t154, .int .u64 t155, .string t156, .string t157], .int .i64 3, .agg #[.int .u64 t158, .int .u64 t159, .int .u64 t160, .string t161, .string t162]] rfl (by (try simp only [List.map_toArray, List.map_cons, List.map_nil]); first | done | rfl | (simp only [List.length_drop, List.length_take]; rfl)) ?_; (with_reducible refine (laws_stHolds.calls 0 t153 t154 t155 t156 t157 3 t158 t159 t160 t161 t162 t176 _ ?gl3 A100.out).mono ?_); (case gl3 => first | exact HG.out | exact Hand.Gl.below HG.out (by repeat (first | (with_reducible first | exact HB.out | apply below_alloc | apply pw_below_drewN | apply below_drew1) | exact HB.out))); rintro e w109 ⟨rfl, hb⟩; refine ⟨_, rfl, ?_⟩; have n0_ := Aside0.mk (blk_below (g := gb149) (o := .cells #[.int .u64 t153, .int .u64 t154, .int .u64 t155, .string t156, .string t157] 29 (0, 0)) (by (with_reducible repeat (first | refine blk_drewN ?_ _ | refine blk_drew ?_ | refine blk_alloc ?_ _)); exact BK149.out) hb); have n1_ := Aside0.mk (blk_below (g := gb150) (o := .cells #[.int .u64 t158, .int .u64 t159, .int .u64 t160, .string t161, .string t162] 29 (0, 0)) (by (with_reducible repeat (first | refine blk_drewN ?_ _ | refine blk_drew ?_ | refine blk_alloc ?_ _)); exact BK150.out) hb); have n2_ := Aside0.mk (below_step (by repeat (first | (with_reducible first | exact HB.out | apply below_alloc | apply pw_below_drewN | apply below_drew1 | refine below_set ?_ GE149.out | refine below_set ?_ GE150.out) | exact HB.out)) hb); clear BK149; clear BK150; clear HB; have BK149 := n0_; have BK150 := n1_; have HB := n2_; clear n0_ n1_ n2_; (try clear hb); (try clear hb2); (try clear hk); (try clear hi); have hcz110_0 : w109.cell? ⟨gb149, 0, none⟩ = some (.int .u64 t153) := (blk_cell BK149.out 0).trans rfl; have hcz110_1 : w109.cell? ⟨gb149, 1, none⟩ = some (.int .u64 t154) := (blk_cell BK149.out 1).trans rfl; have hcz110_2 : w109.cell? ⟨gb149, 2, none⟩ = some (.int .u64 t155) := (blk_cell BK149.out 2).trans rfl; have hcz110_3 : w109.cell? ⟨gb149, 3, none⟩ = some (.string t156) := (blk_cell BK149.out 3).trans rfl; have hcz110_4 : w109.cell? ⟨gb149, 4, none⟩ = some (.string t157) := (blk_cell BK149.out 4).trans rfl; have hfz110_0 := blk_frozen BK149.out 0; have hfz110_1 := blk_frozen BK149.out 1; have hfz110_2 := blk_frozen BK149.out 2; have hfz110_3 := blk_frozen BK149.out 3; have hfz110_4 := blk_frozen BK149.out 4) | (go_at_call 61; (with_reducible refine (laws_stHolds.calls 7 t153 t154 t155 t156 t157 3 t153 t154 t155 t156 t157 t177 _ ?gl4 A102.out).mono ?_); (case gl4 => first | exact HG.out | exact Hand.Gl.below HG.out (by repeat (first | (with_reducible first | exact HB.out | apply below_alloc | apply pw_below_drewN | apply below_drew1) | exact HB.out))); rintro e w111 ⟨rfl, hb⟩; have n0_ := Aside0.mk (blk_below (g := gb149) (o := .cells #[.int .u64 t153, .int .u64 t154, .int .u64 t155, .string t156, .string t157] 29 (0, 0)) (by (with_reducible repeat (first | refine blk_drewN ?_ _ | refine blk_drew ?_ | refine blk_alloc ?_ _)); exact BK149.out) hb); have n1_ := Aside0.mk (blk_below (g := gb150) (o := .cells #[.int .u64 t158, .int .u64 t159, .int .u64 t160, .string t161, .string t162] 29 (0, 0)) (by (with_reducible repeat (first | refine blk_drewN ?_ _ | refine blk_drew ?_ | refine blk_alloc ?_ _)); exact BK150.out) hb); have n2_ := Aside0.mk (below_step (by repeat (first | (with_reducible first | exact HB.out | apply below_alloc | apply pw_below_drewN | apply below_drew1 | refine below_set ?_ GE149.out | refine below_set ?_ GE150.out) | exact HB.out)) hb); clear BK149; clear BK150; clear HB; have BK149 := n0_; have BK150 := n1_; have HB := n2_; clear n0_ n1_ n2_; (try clear hb); (try clear hb2); (try clear hk); (try clear hi)))
                    go_ret
                    exact ⟨by first | rfl | (simp [errW_none, errW_some] <;> rfl) | (simp [*, errW_none, errW_some] <;> rfl), by repeat (first | (with_reducible first | exact HB.out | apply below_alloc | apply pw_below_drewN | apply below_drew1 | refine below_set ?_ GE149.out | refine below_set ?_ GE150.out) | exact HB.out)⟩
                  · rw [if_neg c101] at H
                    have c101b0 : (t165 == t176) = false := by simpa using c101
                    (try (have c101b1 : decide (t165 = t176) = false := by simpa using c101))
                    (try (have c101b2 : (t165 == t176) = false := by simpa using c101))
                    (try (have c101b3 : ¬ (t165 = t176) := by simpa using c101))
                    clear c101
                    obtain rfl := Option.some.inj H
                    try go_wp2
                    have n0_ := Aside0.mk (blk_drew BK149.out)
                    have n1_ := Aside0.mk (blk_drew BK150.out)
                    have n2_ := Aside0.mk (below_drew1 HB.out)
                    clear BK149
                    clear BK150
                    clear HB
                    have BK149 := n0_
                    have BK150 := n1_
                    have HB := n2_
                    clear n0_ n1_ n2_
                    refine start_ (n := 8) (S := fun w' => w'.cell? ⟨gb149, 0, none⟩ = some (.int .u64 t153) ∧ w'.cell? ⟨gb149, 1, none⟩ = some (.int .u64 t154) ∧ w'.cell? ⟨gb149, 2, none⟩ = some (.int .u64 t155) ∧ w'.cell? ⟨gb149, 3, none⟩ = some (.string t156) ∧ w'.cell? ⟨gb149, 4, none⟩ = some (.string t157) ∧ w'.cell? ⟨gb150, 0, none⟩ = some (.int .u64 t158) ∧ w'.cell? ⟨gb150, 1, none⟩ = some (.int .u64 t159) ∧ w'.cell? ⟨gb150, 2, none⟩ = some (.int .u64 t160) ∧ w'.cell? ⟨gb150, 3, none⟩ = some (.string t161) ∧ w'.cell? ⟨gb150, 4, none⟩ = some (.string t162)) (ds := []) #[false, false, false, false, false, false, false, false] (by kernel_rfl) rfl rfl ⟨(blk_cell BK149.out 0).trans rfl, (blk_cell BK149.out 1).trans rfl, (blk_cell BK149.out 2).trans rfl, (blk_cell BK149.out 3).trans rfl, (blk_cell BK149.out 4).trans rfl, (blk_cell BK150.out 0).trans rfl, (blk_cell BK150.out 1).trans rfl, (blk_cell BK150.out 2).trans rfl, (blk_cell BK150.out 3).trans rfl, (blk_cell BK150.out 4).trans rfl⟩ (fun hHeld => ?_); refine with_tabW laws_FnSemverTermCaretTilde.tab6 laws_FnSemverTermCaretTilde.bits6 (fun HT_ HW_ => ?_)
                    generalize wc.drew = w112 at BK149 BK150 HB hHeld ⊢
                    refine take_ (i := 0) (N := some 26) (v := ?_) (a' := ?_) #[true, false, false, false, false, false, false, false] rfl rfl (take_ofW HT_.out HW_.out (by kernel_rfl)) (fun _ _ _ h => h) (Or.inl ⟨by rfl, ?_⟩) hHeld ?_ ?_
                    rotate_left
                    · rintro w' ⟨s0, s1, s2, s3, s4, s5, s6, s7, s8, s9⟩
                      go_simp
                      with_reducible rfl
                    rotate_left
                    · simp only [Act.put, List.setIfInBounds_toArray, List.set_cons_zero, List.set_cons_succ, i64_w, i32_w]
                      rfl
                    refine take_ (i := 1) (N := some 27) (v := ?_) (a' := ?_) #[true, true, false, false, false, false, false, false] rfl rfl (take_ofW HT_.out HW_.out (by kernel_rfl)) (fun _ _ _ h => h) (Or.inl ⟨by rfl, ?_⟩) hHeld ?_ ?_
                    rotate_left
                    · rintro w' ⟨s0, s1, s2, s3, s4, s5, s6, s7, s8, s9⟩
                      go_simp
                      with_reducible rfl
                    rotate_left
                    · simp only [Act.put, List.setIfInBounds_toArray, List.set_cons_zero, List.set_cons_succ, i64_w, i32_w]
                      rfl
                    refine take_ (i := 3) (N := some 29) (v := ?_) (a' := ?_) #[true, true, false, true, false, false, false, false] rfl rfl (take_ofW HT_.out HW_.out (by kernel_rfl)) (fun _ _ _ h => h) (Or.inl ⟨by rfl, ?_⟩) hHeld ?_ ?_
                    rotate_left
                    · rintro w' ⟨s0, s1, s2, s3, s4, s5, s6, s7, s8, s9⟩
                      go_simp
                      with_reducible rfl
                    rotate_left
                    · simp only [Act.put, List.setIfInBounds_toArray, List.set_cons_zero, List.set_cons_succ, i64_w, i32_w]
                      rfl
                    refine take_ (i := 4) (N := some 30) (v := ?_) (a' := ?_) #[true, true, false, true, true, false, false, false] rfl rfl (take_ofW HT_.out HW_.out (by kernel_rfl)) (fun _ _ _ h => h) (Or.inl ⟨by rfl, ?_⟩) hHeld ?_ ?_
                    rotate_left
                    · rintro w' ⟨s0, s1, s2, s3, s4, s5, s6, s7, s8, s9⟩
                      go_simp
                      with_reducible rfl
                    rotate_left
                    · simp only [Act.put, List.setIfInBounds_toArray, List.set_cons_zero, List.set_cons_succ, i64_w, i32_w]
                      rfl
                    refine one_ (i := 2) (N := some 28) #[true, true, true, true, true, false, false, false] rfl rfl (one_of HT_.out (by kernel_rfl)) (by decide) (fun K hK => ?_)
                    refine goes_ Tryd.func61 (by kernel_rfl) rfl #[.int .i64 7, .agg #[.int .u64 t153, .int .u64 t154, .int .u64 t155, .string t156, .string t157], .int .i64 3, .agg #[.int .u64 t158, .int .u64 t159, .int .u64 t160, .string t161, .string t162]] (by rfl) rfl rfl (by (try simp only [List.map_toArray, List.map_cons, List.map_nil]); first | done | rfl | (simp only [List.length_drop, List.length_take]; rfl)) ?_
                    with_reducible refine (laws_stHolds.calls 7 t153 t154 t155 t156 t157 3 t158 t159 t160 t161 t162 t165 _ ?gl24 A46.out).mono ?_
                    case gl24 => (first | exact HG.out | exact Hand.Gl.below HG.out (by repeat (first | (with_reducible first | exact HB.out | apply below_alloc | apply pw_below_drewN | apply below_drew1) | exact HB.out)))
                    rintro e w113 ⟨rfl, hb⟩
                    refine ⟨_, rfl, ?_⟩
                    have n0_ := Aside0.mk (blk_below (g := gb149) (o := .cells #[.int .u64 t153, .int .u64 t154, .int .u64 t155, .string t156, .string t157] 29 (0, 0)) (by (with_reducible repeat (first | refine blk_drewN ?_ _ | refine blk_drew ?_ | refine blk_alloc ?_ _)); exact BK149.out) hb)
                    have n1_ := Aside0.mk (blk_below (g := gb150) (o := .cells #[.int .u64 t158, .int .u64 t159, .int .u64 t160, .string t161, .string t162] 29 (0, 0)) (by (with_reducible repeat (first | refine blk_drewN ?_ _ | refine blk_drew ?_ | refine blk_alloc ?_ _)); exact BK150.out) hb)
                    have n2_ := Aside0.mk (below_step (by repeat (first | (with_reducible first | exact HB.out | apply below_alloc | apply pw_below_drewN | apply below_drew1 | refine below_set ?_ GE149.out | refine below_set ?_ GE150.out) | exact HB.out)) hb)
                    clear BK149
                    clear BK150
                    clear HB
                    have BK149 := n0_
                    have BK150 := n1_
                    have HB := n2_
                    clear n0_ n1_ n2_
                    (try clear hb)
                    (try clear hb2)
                    (try clear hk)
                    (try clear hi)
                    refine hK.out _ _ ⟨(blk_cell BK149.out 0).trans rfl, (blk_cell BK149.out 1).trans rfl, (blk_cell BK149.out 2).trans rfl, (blk_cell BK149.out 3).trans rfl, (blk_cell BK149.out 4).trans rfl, (blk_cell BK150.out 0).trans rfl, (blk_cell BK150.out 1).trans rfl, (blk_cell BK150.out 2).trans rfl, (blk_cell BK150.out 3).trans rfl, (blk_cell BK150.out 4).trans rfl⟩ (fun hHeld => ?_)
                    clear hK K
                    refine norm_ (a' := ?_) ?_ ?_
                    rotate_left
                    · show Act.put _ (some 28) _ = _
                      simp only [Act.put, List.setIfInBounds_toArray, List.set_cons_zero, List.set_cons_succ, i64_w, i32_w]
                      rfl
                    refine one_ (i := 5) (N := some 31) #[true, true, true, true, true, true, false, false] rfl rfl (one_of HT_.out (by kernel_rfl)) (by decide) (fun K hK => ?_)
                    refine goes_ Tryd.func61 (by kernel_rfl) rfl #[.int .i64 6, .agg #[.int .u64 t153, .int .u64 t154, .int .u64 t155, .string t156, .string t157], .int .i64 3, .agg #[.int .u64 t158, .int .u64 t159, .int .u64 t160, .string t161, .string t162]] (by rfl) rfl rfl (by (try simp only [List.map_toArray, List.map_cons, List.map_nil]); first | done | rfl | (simp only [List.length_drop, List.length_take]; rfl)) ?_
                    with_reducible refine (laws_stHolds.calls 6 t153 t154 t155 t156 t157 3 t158 t159 t160 t161 t162 t166 _ ?gl25 A47.out).mono ?_
                    case gl25 => (first | exact HG.out | exact Hand.Gl.below HG.out (by repeat (first | (with_reducible first | exact HB.out | apply below_alloc | apply pw_below_drewN | apply below_drew1) | exact HB.out)))
                    rintro e w114 ⟨rfl, hb⟩
                    refine ⟨_, rfl, ?_⟩
                    have n0_ := Aside0.mk (blk_below (g := gb149) (o := .cells #[.int .u64 t153, .int .u64 t154, .int .u64 t155, .string t156, .string t157] 29 (0, 0)) (by (with_reducible repeat (first | refine blk_drewN ?_ _ | refine blk_drew ?_ | refine blk_alloc ?_ _)); exact BK149.out) hb)
                    have n1_ := Aside0.mk (blk_below (g := gb150) (o := .cells #[.int .u64 t158, .int .u64 t159, .int .u64 t160, .string t161, .string t162] 29 (0, 0)) (by (with_reducible repeat (first | refine blk_drewN ?_ _ | refine blk_drew ?_ | refine blk_alloc ?_ _)); exact BK150.out) hb)
                    have n2_ := Aside0.mk (below_step (by repeat (first | (with_reducible first | exact HB.out | apply below_alloc | apply pw_below_drewN | apply below_drew1 | refine below_set ?_ GE149.out | refine below_set ?_ GE150.out) | exact HB.out)) hb)
                    clear BK149
                    clear BK150
                    clear HB
                    have BK149 := n0_
                    have BK150 := n1_
                    have HB := n2_
                    clear n0_ n1_ n2_
                    (try clear hb)
                    (try clear hb2)
                    (try clear hk)
                    (try clear hi)
                    refine hK.out _ _ ⟨(blk_cell BK149.out 0).trans rfl, (blk_cell BK149.out 1).trans rfl, (blk_cell BK149.out 2).trans rfl, (blk_cell BK149.out 3).trans rfl, (blk_cell BK149.out 4).trans rfl, (blk_cell BK150.out 0).trans rfl, (blk_cell BK150.out 1).trans rfl, (blk_cell BK150.out 2).trans rfl, (blk_cell BK150.out 3).trans rfl, (blk_cell BK150.out 4).trans rfl⟩ (fun hHeld => ?_)
                    clear hK K
                    refine norm_ (a' := ?_) ?_ ?_
                    rotate_left
                    · show Act.put _ (some 31) _ = _
                      simp only [Act.put, List.setIfInBounds_toArray, List.set_cons_zero, List.set_cons_succ, i64_w, i32_w]
                      rfl
                    refine pure_ (i := 6) (N := some 5) (v := ?_) (a' := ?_) #[true, true, true, true, true, true, true, false] rfl rfl (any_of HT_.out (by kernel_rfl)) (fun _ _ _ h => h) (Or.inl ⟨by rfl, ?_⟩) ?_ ?_
                    rotate_left
                    · intro w'
                      go_simp
                      with_reducible rfl
                    rotate_left
                    · simp only [Act.put, List.setIfInBounds_toArray, List.set_cons_zero, List.set_cons_succ, i64_w, i32_w]
                      rfl
                    refine pure_ (i := 7) (N := some 6) (v := ?_) (a' := ?_) #[true, true, true, true, true, true, true, true] rfl rfl (any_of HT_.out (by kernel_rfl)) (fun _ _ _ h => h) (Or.inl ⟨by rfl, ?_⟩) ?_ ?_
                    rotate_left
                    · intro w'
                      go_simp
                      with_reducible rfl
                    rotate_left
                    · simp only [Act.put, List.setIfInBounds_toArray, List.set_cons_zero, List.set_cons_succ, i64_w, i32_w]
                      rfl
                    refine done_ (done_of HT_.out (by kernel_rfl)) ?_
                    have hnb115 := NB149_150.out
                    have hnc115 := NB150_149.out
                    have hcz116_0 : w114.cell? ⟨gb149, 0, none⟩ = some (.int .u64 t153) := (blk_cell BK149.out 0).trans rfl
                    have hcz116_1 : w114.cell? ⟨gb149, 1, none⟩ = some (.int .u64 t154) := (blk_cell BK149.out 1).trans rfl
                    have hcz116_2 : w114.cell? ⟨gb149, 2, none⟩ = some (.int .u64 t155) := (blk_cell BK149.out 2).trans rfl
                    have hcz116_3 : w114.cell? ⟨gb149, 3, none⟩ = some (.string t156) := (blk_cell BK149.out 3).trans rfl
                    have hcz116_4 : w114.cell? ⟨gb149, 4, none⟩ = some (.string t157) := (blk_cell BK149.out 4).trans rfl
                    have hfz116_0 := blk_frozen BK149.out 0
                    have hfz116_1 := blk_frozen BK149.out 1
                    have hfz116_2 := blk_frozen BK149.out 2
                    have hfz116_3 := blk_frozen BK149.out 3
                    have hfz116_4 := blk_frozen BK149.out 4
                    have hcz117_0 : w114.cell? ⟨gb150, 0, none⟩ = some (.int .u64 t158) := (blk_cell BK150.out 0).trans rfl
                    have hcz117_1 : w114.cell? ⟨gb150, 1, none⟩ = some (.int .u64 t159) := (blk_cell BK150.out 1).trans rfl
                    have hcz117_2 : w114.cell? ⟨gb150, 2, none⟩ = some (.int .u64 t160) := (blk_cell BK150.out 2).trans rfl
                    have hcz117_3 : w114.cell? ⟨gb150, 3, none⟩ = some (.string t161) := (blk_cell BK150.out 3).trans rfl
                    have hcz117_4 : w114.cell? ⟨gb150, 4, none⟩ = some (.string t162) := (blk_cell BK150.out 4).trans rfl
                    have hfz117_0 := blk_frozen BK150.out 0
                    have hfz117_1 := blk_frozen BK150.out 1
                    have hfz117_2 := blk_frozen BK150.out 2
                    have hfz117_3 := blk_frozen BK150.out 3
                    have hfz117_4 := blk_frozen BK150.out 4
                    try go_wp2_with (first | ((with_reducible refine gate_callee (f := 61) rfl ?_); refine goesL_ (some 65) rfl rfl Tryd.func61 (by kernel_rfl) rfl #[.int .i64 0, .agg #[.int .u64 t153, .int .u64 t154, .int .u64 t155, .string t156, .string t157], .int .i64 3, .agg #[.int .u64 t158, .int .u64 t159, .int .u64 t160, .string t161, .string t162]] rfl (by (try simp only [List.map_toArray, List.map_cons, List.map_nil]); first | done | rfl | (simp only [List.length_drop, List.length_take]; rfl)) ?_; (with_reducible refine (laws_stHolds.calls 0 t153 t154 t155 t156 t157 3 t158 t159 t160 t161 t162 t176 _ ?gl5 A100.out).mono ?_); (case gl5 => first | exact HG.out | exact Hand.Gl.below HG.out (by repeat (first | (with_reducible first | exact HB.out | apply below_alloc | apply pw_below_drewN | apply below_drew1) | exact HB.out))); rintro e w118 ⟨rfl, hb⟩; refine ⟨_, rfl, ?_⟩; have n0_ := Aside0.mk (blk_below (g := gb149) (o := .cells #[.int .u64 t153, .int .u64 t154, .int .u64 t155, .string t156, .string t157] 29 (0, 0)) (by (with_reducible repeat (first | refine blk_drewN ?_ _ | refine blk_drew ?_ | refine blk_alloc ?_ _)); exact BK149.out) hb); have n1_ := Aside0.mk (blk_below (g := gb150) (o := .cells #[.int .u64 t158, .int .u64 t159, .int .u64 t160, .string t161, .string t162] 29 (0, 0)) (by (with_reducible repeat (first | refine blk_drewN ?_ _ | refine blk_drew ?_ | refine blk_alloc ?_ _)); exact BK150.out) hb); have n2_ := Aside0.mk (below_step (by repeat (first | (with_reducible first | exact HB.out | apply below_alloc | apply pw_below_drewN | apply below_drew1 | refine below_set ?_ GE149.out | refine below_set ?_ GE150.out) | exact HB.out)) hb); clear BK149; clear BK150; clear HB; have BK149 := n0_; have BK150 := n1_; have HB := n2_; clear n0_ n1_ n2_; (try clear hb); (try clear hb2); (try clear hk); (try clear hi)))
                    go_ret
                    exact ⟨by first | rfl | (simp [errW_none, errW_some] <;> rfl) | (simp [*, errW_none, errW_some] <;> rfl), by repeat (first | (with_reducible first | exact HB.out | apply below_alloc | apply pw_below_drewN | apply below_drew1 | refine below_set ?_ GE149.out | refine below_set ?_ GE150.out) | exact HB.out)⟩

end Go.Proofs.YtalpehfjjidfhaaDoor.MC
