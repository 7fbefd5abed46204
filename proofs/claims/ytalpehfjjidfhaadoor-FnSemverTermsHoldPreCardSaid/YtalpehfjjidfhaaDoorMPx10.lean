-- Written by a program of this session (wip/tools/myprint.py over the kit's print).
import Derived.Test.YtalpehfjjidfhaaDoorMPx0
import Derived.Test.YtalpehfjjidfhaaDoorMPx1
import Derived.Test.YtalpehfjjidfhaaDoorMPx2
import Derived.Test.YtalpehfjjidfhaaDoorMPx3
import Derived.Test.YtalpehfjjidfhaaDoorMPx5
import Derived.Test.YtalpehfjjidfhaaDoorMPx6
import Derived.Test.YtalpehfjjidfhaaDoorMPx9
namespace Go.Proofs.YtalpehfjjidfhaaDoor.MP
open Go.RowKit Go.Proofs.YtalpehfjjidfhaaDoorW.PrintWords Go.Proofs.YtalpehfjjidfhaaDoorW.PrintLast Go.Proofs.YtalpehfjjidfhaaDoorW.PrintMore Go.Proofs.YtalpehfjjidfhaaDoor
attribute [local go_sem] max2_int min2_int max_two min_two max_three min_three max_four min_four   -- for this text's walks alone
set_option linter.unusedVariables false
set_option linter.unusedSimpArgs false

/-! ### laws_FnSemverTermsHoldPre: function 19 -/
mutual
def laws_FnSemverTermsHoldPre.j0 : Nat → List (List (S42)) → Bool → Bool → Int → Int → Int → ByteArray → ByteArray → Option (Bool)
 | 0, _, _, _, _, _, _, _, _ => none
 | k + 1, x0, x2, x14, x226000, x226001, x226002, x226003, x226004 => if x14 = true then (some true) else (if x226003.toList = ([] : List UInt8) then (laws_FnSemverTermsHoldPre.j1 k x0 x2 true x226000 x226001 x226002 x226003 x226004) else ((laws_scGood.f k x0).bind fun t228 => (if t228 = true then ((laws_svGood.f k (([(⟨x226000, x226001, x226002, x226003, x226004⟩ : S29)] : List (S29)))).bind fun t232 => (if t232 = true then ((spec_AllSpoken.f k x0 x226000 x226001 x226002 x226003 x226004).bind fun t233 => (laws_FnSemverTermsHoldPre.j1 k x0 x2 (!t233) x226000 x226001 x226002 x226003 x226004)) else (laws_FnSemverTermsHoldPre.j1 k x0 x2 true x226000 x226001 x226002 x226003 x226004))) else (laws_FnSemverTermsHoldPre.j1 k x0 x2 true x226000 x226001 x226002 x226003 x226004))))
def laws_FnSemverTermsHoldPre.j1 : Nat → List (List (S42)) → Bool → Bool → Int → Int → Int → ByteArray → ByteArray → Option (Bool)
 | 0, _, _, _, _, _, _, _, _ => none
 | k + 1, x0, x2, x34, x226000, x226001, x226002, x226003, x226004 => if x34 = true then (some true) else ((Hand.TermsHold.f x0 x226000 x226001 x226002 x226003 x226004 x2).bind fun t234 => ((spec_Satisfies.f k x0 x226000 x226001 x226002 x226003 x226004 x2).bind fun t235 => (some (t234 == t235))))
end
def laws_FnSemverTermsHoldPre.f (k : Nat) (l0 : List (List (S42))) (a1_0 : Int) (a1_1 : Int) (a1_2 : Int) (a1_3 : ByteArray) (a1_4 : ByteArray) (a2 : Bool) : Option (Bool) := (laws_zzFits11.f k l0).bind fun t226 => (if t226 = true then ((laws_zzFits14.f a1_0 a1_1 a1_2 a1_3 a1_4).bind fun t227 => (laws_FnSemverTermsHoldPre.j0 k l0 a2 (!t227) a1_0 a1_1 a1_2 a1_3 a1_4)) else (laws_FnSemverTermsHoldPre.j0 k l0 a2 true a1_0 a1_1 a1_2 a1_3 a1_4))
theorem laws_FnSemverTermsHoldPre.mono_l : ∀ k, (∀ y0 y1 y2 y3 y4 y5 y6 y7, LeO (laws_FnSemverTermsHoldPre.j0 k y0 y1 y2 y3 y4 y5 y6 y7) (laws_FnSemverTermsHoldPre.j0 (k + 1) y0 y1 y2 y3 y4 y5 y6 y7)) ∧ (∀ y0 y1 y2 y3 y4 y5 y6 y7, LeO (laws_FnSemverTermsHoldPre.j1 k y0 y1 y2 y3 y4 y5 y6 y7) (laws_FnSemverTermsHoldPre.j1 (k + 1) y0 y1 y2 y3 y4 y5 y6 y7))
 | 0 => ⟨fun _ _ _ _ _ _ _ _ r h => by simp [laws_FnSemverTermsHoldPre.j0] at h, fun _ _ _ _ _ _ _ _ r h => by simp [laws_FnSemverTermsHoldPre.j1] at h⟩
 | k + 1 => by
  obtain ⟨ih0, ih1⟩ := laws_FnSemverTermsHoldPre.mono_l k
  refine ⟨?_, ?_⟩
  ·
   intro y0 y1 y2 y3 y4 y5 y6 y7
   unfold laws_FnSemverTermsHoldPre.j0
   repeat' first
   | (with_reducible exact ih0 _ _ _ _ _ _ _ _)
   | (with_reducible exact ih1 _ _ _ _ _ _ _ _)
   | (with_reducible exact laws_scGood.mono _ _)
   | (with_reducible exact laws_svGood.mono _ _)
   | (with_reducible exact laws_zzFits11.mono _ _)
   | (with_reducible exact spec_AllSpoken.mono _ _ _ _ _ _ _)
   | (with_reducible exact spec_Satisfies.mono _ _ _ _ _ _ _ _)
   | (with_reducible exact LeO.refl _)
   | (with_reducible exact LeO.none _)
   | (with_reducible refine LeO.ite ?_ ?_)
   | (with_reducible refine LeO.bind ?_ (fun _ => ?_))
   | exact ih0 _ _ _ _ _ _ _ _
   | exact ih1 _ _ _ _ _ _ _ _
   | exact laws_scGood.mono _ _
   | exact laws_svGood.mono _ _
   | exact laws_zzFits11.mono _ _
   | exact spec_AllSpoken.mono _ _ _ _ _ _ _
   | exact spec_Satisfies.mono _ _ _ _ _ _ _ _
   | exact LeO.none _
   | refine LeO.ite ?_ ?_
   | refine LeO.bind ?_ (fun _ => ?_)
  ·
   intro y0 y1 y2 y3 y4 y5 y6 y7
   unfold laws_FnSemverTermsHoldPre.j1
   repeat' first
   | (with_reducible exact ih0 _ _ _ _ _ _ _ _)
   | (with_reducible exact ih1 _ _ _ _ _ _ _ _)
   | (with_reducible exact laws_scGood.mono _ _)
   | (with_reducible exact laws_svGood.mono _ _)
   | (with_reducible exact laws_zzFits11.mono _ _)
   | (with_reducible exact spec_AllSpoken.mono _ _ _ _ _ _ _)
   | (with_reducible exact spec_Satisfies.mono _ _ _ _ _ _ _ _)
   | (with_reducible exact LeO.refl _)
   | (with_reducible exact LeO.none _)
   | (with_reducible refine LeO.ite ?_ ?_)
   | (with_reducible refine LeO.bind ?_ (fun _ => ?_))
   | exact ih0 _ _ _ _ _ _ _ _
   | exact ih1 _ _ _ _ _ _ _ _
   | exact laws_scGood.mono _ _
   | exact laws_svGood.mono _ _
   | exact laws_zzFits11.mono _ _
   | exact spec_AllSpoken.mono _ _ _ _ _ _ _
   | exact spec_Satisfies.mono _ _ _ _ _ _ _ _
   | exact LeO.none _
   | refine LeO.ite ?_ ?_
   | refine LeO.bind ?_ (fun _ => ?_)
theorem laws_FnSemverTermsHoldPre.mono : ∀ a0 a1 a2 a3 a4 a5 a6 k, LeO (laws_FnSemverTermsHoldPre.f k a0 a1 a2 a3 a4 a5 a6) (laws_FnSemverTermsHoldPre.f (k + 1) a0 a1 a2 a3 a4 a5 a6) := by
 intro a0 a1 a2 a3 a4 a5 a6 k
 obtain ⟨ih0, ih1⟩ := laws_FnSemverTermsHoldPre.mono_l k
 unfold laws_FnSemverTermsHoldPre.f
 repeat' first
   | (with_reducible exact ih0 _ _ _ _ _ _ _ _)
   | (with_reducible exact ih1 _ _ _ _ _ _ _ _)
   | (with_reducible exact laws_scGood.mono _ _)
   | (with_reducible exact laws_svGood.mono _ _)
   | (with_reducible exact laws_zzFits11.mono _ _)
   | (with_reducible exact spec_AllSpoken.mono _ _ _ _ _ _ _)
   | (with_reducible exact spec_Satisfies.mono _ _ _ _ _ _ _ _)
   | (with_reducible exact LeO.refl _)
   | (with_reducible exact LeO.none _)
   | (with_reducible refine LeO.ite ?_ ?_)
   | (with_reducible refine LeO.bind ?_ (fun _ => ?_))
   | exact ih0 _ _ _ _ _ _ _ _
   | exact ih1 _ _ _ _ _ _ _ _
   | exact laws_scGood.mono _ _
   | exact laws_svGood.mono _ _
   | exact laws_zzFits11.mono _ _
   | exact spec_AllSpoken.mono _ _ _ _ _ _ _
   | exact spec_Satisfies.mono _ _ _ _ _ _ _ _
   | exact LeO.none _
   | refine LeO.ite ?_ ?_
   | refine LeO.bind ?_ (fun _ => ?_)
def laws_FnSemverTermsHoldPre.T5 : Bool × List (List Nat × List Nat) := (true, [([], []), ([], []), ([], []), ([0, 1, 2], [0, 1, 2]), ([], []), ([], []), ([], []), ([4, 5, 6, 3], [4, 5, 6]), ([3, 7], [3, 7]), ([8, 7, 0, 1, 2, 3, 4, 5, 6, 7, 8], [8])])
def laws_FnSemverTermsHoldPre.B5 : List Nat := [0, 0, 0, 7, 0, 0, 0, 127, 255, 511]
theorem laws_FnSemverTermsHoldPre.tab5 : rtab .any (opsOf Tryd.f19 5) = laws_FnSemverTermsHoldPre.T5 := by kernel_rfl
theorem laws_FnSemverTermsHoldPre.bits5 : waitsOk laws_FnSemverTermsHoldPre.T5.2 laws_FnSemverTermsHoldPre.B5 = true := by kernel_rfl
set_option maxHeartbeats 8000000 in
set_option maxRecDepth 100000 in
theorem laws_FnSemverTermsHoldPre.calls (k : Nat) (A0 : Option Addr) (c0 : Nat) (l0 : List (List (S42))) (a1_0 : Int) (a1_1 : Int) (a1_2 : Int) (a1_3 : ByteArray) (a1_4 : ByteArray) (a2 : Bool) (r : Bool) (w : World) (hr0 : Kd.C (Kd.slice 42 k42) w A0 l0.length l0) (hc0 : l0.length ≤ c0) (hG0 : Hand.Gl w) (h : laws_FnSemverTermsHoldPre.f k l0 a1_0 a1_1 a1_2 a1_3 a1_4 a2 = some r) :
  Calls Tryd.prog 19 #[.slice A0 l0.length c0, .agg #[.int .u64 a1_0, .int .u64 a1_1, .int .u64 a1_2, .string a1_3, .string a1_4], .bool a2] w fun e w' => e = .returned (.bool r) ∧ Below w.heap.size w w' := by
 have HG := Aside0.mk hG0
 clear hG0
 have hu29 := Tryd.underlying29
 have HR0 := Aside0.mk hr0
 have HC0 := Aside0.mk hc0
 clear hr0 hc0
 have HB := Aside0.mk (Below.refl w.heap.size w)
 have H : ((laws_zzFits11.f k l0).bind fun t226 => (if t226 = true then ((laws_zzFits14.f a1_0 a1_1 a1_2 a1_3 a1_4).bind fun t227 => (laws_FnSemverTermsHoldPre.j0 k l0 a2 (!t227) a1_0 a1_1 a1_2 a1_3 a1_4)) else (laws_FnSemverTermsHoldPre.j0 k l0 a2 true a1_0 a1_1 a1_2 a1_3 a1_4))) = some r := h
 clear h
 have HC4 := Aside0.mk H
 clear H
 go_enter Tryd.func19, Tryd.ntmps19
 go_upto_region 1 with (first | ((with_reducible refine gate_dst (N := 4) rfl ?_); (try (refine gate_guard (by rfl) ?_; dsimp only)); refine box_event ?hg (N := 4) ?hd (cs := #[.int .u64 a1_0, .int .u64 a1_1, .int .u64 a1_2, .string a1_3, .string a1_4]) (t := 29) ?hr ?_; (case hd => rfl); (case hg => rfl); (case hr => first | (go_simp; done) | (go_simp; rfl)); intro gb225 hg w5 hbox hb; have n0_ := Aside0.mk (below_step (hbl HB.out) hb); have n1_ := Aside0.mk (hbox); have n2_ := Aside0.mk ((by rw [hg]; exact (below_size (hbl HB.out)) : w.heap.size ≤ gb225)); have n3_ := Aside0.mk ((by rw [hg]; exact (below_size (hbl HB.out)) : w.heap.size ≤ gb225)); clear HB; have HB := n0_; have BK225 := n1_; have GW225 := n2_; have GE225 := n3_; clear n0_ n1_ n2_ n3_; clear hb hbox hg))
 (try simp only [Act.put, putA, putZ, putS])
 go_cut [14] (fun v14 wc => ∃ (kq : Nat) (x14_3 : Bool), v14 = .bool x14_3 ∧ Aside0 (laws_FnSemverTermsHoldPre.j0 kq l0 a2 x14_3 a1_0 a1_1 a1_2 a1_3 a1_4 = some r) ∧ Aside0 (kq ≤ k) ∧ Aside0 (wc.heap[gb225]? = some (.cells #[.int .u64 a1_0, .int .u64 a1_1, .int .u64 a1_2, .string a1_3, .string a1_4] 29 (0, 0))) ∧ Aside0 (Below w.heap.size w wc))
 case first =>
  have H := HC4.out
  clear HC4
  replace H := Option.bind_eq_some_iff.mp H
  obtain ⟨t226, A60, H⟩ := H
  replace H : (if t226 = true then ((laws_zzFits14.f a1_0 a1_1 a1_2 a1_3 a1_4).bind fun t227 => (laws_FnSemverTermsHoldPre.j0 k l0 a2 (!t227) a1_0 a1_1 a1_2 a1_3 a1_4)) else (laws_FnSemverTermsHoldPre.j0 k l0 a2 true a1_0 a1_1 a1_2 a1_3 a1_4)) = some r := H
  have A6 := Aside0.mk A60
  clear A60
  by_cases c7 : t226 = true
  ·
   subst c7
   have H1 : ((laws_zzFits14.f a1_0 a1_1 a1_2 a1_3 a1_4).bind fun t227 => (laws_FnSemverTermsHoldPre.j0 k l0 a2 (!t227) a1_0 a1_1 a1_2 a1_3 a1_4)) = some r := by rw [if_pos rfl] at H; exact H
   clear H
   have H := H1
   clear H1
   replace H := Option.bind_eq_some_iff.mp H
   obtain ⟨t227, A80, H⟩ := H
   replace H : (laws_FnSemverTermsHoldPre.j0 k l0 a2 (!t227) a1_0 a1_1 a1_2 a1_3 a1_4) = some r := H
   have A8 := Aside0.mk A80
   clear A80
   have H' := Aside0.mk H
   clear H
   go_wp2_with (first | ((with_reducible refine gate_callee (f := 67) rfl ?_); refine goesL_ (some 8) rfl rfl Tryd.func67 (by kernel_rfl) rfl #[.slice A0 l0.length c0] rfl (by (try simp only [List.map_toArray, List.map_cons, List.map_nil]); first | done | rfl | (simp only [List.length_drop, List.length_take]; rfl)) ?_; (with_reducible refine (laws_zzFits11.calls k _ _ l0 true _ ?side1 ?side2 A6.out).mono ?_); (case side1 => repeat (first | exact (Kd.C_below HR0.out HB.out) | (with_reducible refine Kd.C_alloc ?_ _) | (with_reducible refine Kd.C_drewN ?_ _) | (with_reducible refine Kd.C_drew ?_))); (case side2 => exact HC0.out); rintro e w9 ⟨rfl, hb⟩; refine ⟨_, rfl, ?_⟩; have n0_ := Aside0.mk (blk_below (hbk BK225.out) hb); have n1_ := Aside0.mk (below_step (hbl HB.out) hb); clear BK225; clear HB; have BK225 := n0_; have HB := n1_; clear n0_ n1_; (try clear hb); (try clear hb2); (try clear hk); (try clear hi); have hcz10_0 : w9.cell? ⟨gb225, 0, none⟩ = some (.int .u64 a1_0) := (blk_cell BK225.out 0).trans rfl; have hcz10_1 : w9.cell? ⟨gb225, 1, none⟩ = some (.int .u64 a1_1) := (blk_cell BK225.out 1).trans rfl; have hcz10_2 : w9.cell? ⟨gb225, 2, none⟩ = some (.int .u64 a1_2) := (blk_cell BK225.out 2).trans rfl; have hcz10_3 : w9.cell? ⟨gb225, 3, none⟩ = some (.string a1_3) := (blk_cell BK225.out 3).trans rfl; have hcz10_4 : w9.cell? ⟨gb225, 4, none⟩ = some (.string a1_4) := (blk_cell BK225.out 4).trans rfl; have hfz10_0 := blk_frozen BK225.out 0; have hfz10_1 := blk_frozen BK225.out 1; have hfz10_2 := blk_frozen BK225.out 2; have hfz10_3 := blk_frozen BK225.out 3; have hfz10_4 := blk_frozen BK225.out 4) | (go_at_call 25; (with_reducible refine (laws_zzFits14.calls a1_0 a1_1 a1_2 a1_3 a1_4 t227 _ A8.out).mono ?_); rintro e w11 ⟨rfl, hb⟩; have n0_ := Aside0.mk (blk_below (hbk BK225.out) hb); have n1_ := Aside0.mk (below_step (hbl HB.out) hb); clear BK225; clear HB; have BK225 := n0_; have HB := n1_; clear n0_ n1_; (try clear hb); (try clear hb2); (try clear hk); (try clear hi)))
   go_meet
   case rel => exact ⟨_, (!t227), hrf, H', ⟨by first | omega | exact Nat.le_refl _⟩, ⟨by (with_reducible repeat (first | refine blk_drewN ?_ _ | refine blk_drew ?_ | refine blk_alloc ?_ _)); exact BK225.out⟩, ⟨hbl HB.out⟩⟩
  ·
   replace c7 := Bool.eq_false_iff.mpr c7
   subst c7
   have H1 : (laws_FnSemverTermsHoldPre.j0 k l0 a2 true a1_0 a1_1 a1_2 a1_3 a1_4) = some r := by rw [if_neg (show ¬ (false = true) by decide)] at H; exact H
   clear H
   have H := H1
   clear H1
   have H' := Aside0.mk H
   clear H
   go_wp2_with (first | ((with_reducible refine gate_callee (f := 67) rfl ?_); refine goesL_ (some 8) rfl rfl Tryd.func67 (by kernel_rfl) rfl #[.slice A0 l0.length c0] rfl (by (try simp only [List.map_toArray, List.map_cons, List.map_nil]); first | done | rfl | (simp only [List.length_drop, List.length_take]; rfl)) ?_; (with_reducible refine (laws_zzFits11.calls k _ _ l0 false _ ?side1 ?side2 A6.out).mono ?_); (case side1 => repeat (first | exact (Kd.C_below HR0.out HB.out) | (with_reducible refine Kd.C_alloc ?_ _) | (with_reducible refine Kd.C_drewN ?_ _) | (with_reducible refine Kd.C_drew ?_))); (case side2 => exact HC0.out); rintro e w12 ⟨rfl, hb⟩; refine ⟨_, rfl, ?_⟩; have n0_ := Aside0.mk (blk_below (hbk BK225.out) hb); have n1_ := Aside0.mk (below_step (hbl HB.out) hb); clear BK225; clear HB; have BK225 := n0_; have HB := n1_; clear n0_ n1_; (try clear hb); (try clear hb2); (try clear hk); (try clear hi)))
   go_meet
   case rel => exact ⟨_, (true), hrf, H', ⟨by first | omega | exact Nat.le_refl _⟩, ⟨by (with_reducible repeat (first | refine blk_drewN ?_ _ | refine blk_drew ?_ | refine blk_alloc ?_ _)); exact BK225.out⟩, ⟨hbl HB.out⟩⟩
 case rest =>
  clear HC4
  try clear c1
  try clear p2
  try clear c6
  try clear c7
  try clear hcz10_0
  try clear hcz10_1
  try clear hcz10_2
  try clear hcz10_3
  try clear hcz10_4
  try clear hfz10_0
  try clear hfz10_1
  try clear hfz10_2
  try clear hfz10_3
  try clear hfz10_4
  obtain ⟨kq, x14_3, rfl, HA, HJ3, BK225, HB⟩ := hcut
  cases kq with
  | zero => exact absurd HA.out (by simp [laws_FnSemverTermsHoldPre.j0])
  | succ kj3 =>
   have H := HA.out
   clear HA
   simp only [laws_FnSemverTermsHoldPre.j0] at H
   by_cases c13 : x14_3 = true
   ·
    subst c13
    have H1 : (some true) = some r := by rw [if_pos rfl] at H; exact H
    clear H
    have H := H1
    clear H1
    obtain rfl := Option.some.inj H
    go_wp2
    go_ret
    exact ⟨hrf, hbl HB.out⟩
   ·
    replace c13 := Bool.eq_false_iff.mpr c13
    subst c13
    have H1 : (if a1_3.toList = ([] : List UInt8) then (laws_FnSemverTermsHoldPre.j1 kj3 l0 a2 true a1_0 a1_1 a1_2 a1_3 a1_4) else ((laws_scGood.f kj3 l0).bind fun t228 => (if t228 = true then ((laws_svGood.f kj3 (([(⟨a1_0, a1_1, a1_2, a1_3, a1_4⟩ : S29)] : List (S29)))).bind fun t232 => (if t232 = true then ((spec_AllSpoken.f kj3 l0 a1_0 a1_1 a1_2 a1_3 a1_4).bind fun t233 => (laws_FnSemverTermsHoldPre.j1 kj3 l0 a2 (!t233) a1_0 a1_1 a1_2 a1_3 a1_4)) else (laws_FnSemverTermsHoldPre.j1 kj3 l0 a2 true a1_0 a1_1 a1_2 a1_3 a1_4))) else (laws_FnSemverTermsHoldPre.j1 kj3 l0 a2 true a1_0 a1_1 a1_2 a1_3 a1_4)))) = some r := by rw [if_neg (show ¬ (false = true) by decide)] at H; exact H
    clear H
    have H := H1
    clear H1
    have HC14 := Aside0.mk H
    clear H
    go_upto_region 3 with (fail)
    go_cut [34] (fun v34 wc => ∃ (kq : Nat) (x34_13 : Bool), v34 = .bool x34_13 ∧ Aside0 (laws_FnSemverTermsHoldPre.j1 kq l0 a2 x34_13 a1_0 a1_1 a1_2 a1_3 a1_4 = some r) ∧ Aside0 (kq ≤ kj3) ∧ Aside0 (wc.heap[gb225]? = some (.cells #[.int .u64 a1_0, .int .u64 a1_1, .int .u64 a1_2, .string a1_3, .string a1_4] 29 (0, 0))) ∧ Aside0 (Below w.heap.size w wc))
    case first =>
     have H := HC14.out
     clear HC14
     by_cases c15 : a1_3.toList = ([] : List UInt8)
     ·
      rw [if_pos c15] at H
      have c15b0 : (a1_3.toList == ([] : List UInt8)) = true := beq_iff_eq.mpr c15
      have c15b1 : (a1_3.toList != ([] : List UInt8)) = false := bne_eq_false_iff_eq.mpr c15
      clear c15
      (first | rw [c15b0] | (simp only [i64_w, i32_w]; rw [c15b0]) | skip)
      have H' := Aside0.mk H
      clear H
      have hcz16_0 : wc.cell? ⟨gb225, 0, none⟩ = some (.int .u64 a1_0) := (blk_cell BK225.out 0).trans rfl
      have hcz16_1 : wc.cell? ⟨gb225, 1, none⟩ = some (.int .u64 a1_1) := (blk_cell BK225.out 1).trans rfl
      have hcz16_2 : wc.cell? ⟨gb225, 2, none⟩ = some (.int .u64 a1_2) := (blk_cell BK225.out 2).trans rfl
      have hcz16_3 : wc.cell? ⟨gb225, 3, none⟩ = some (.string a1_3) := (blk_cell BK225.out 3).trans rfl
      have hcz16_4 : wc.cell? ⟨gb225, 4, none⟩ = some (.string a1_4) := (blk_cell BK225.out 4).trans rfl
      have hfz16_0 := blk_frozen BK225.out 0
      have hfz16_1 := blk_frozen BK225.out 1
      have hfz16_2 := blk_frozen BK225.out 2
      have hfz16_3 := blk_frozen BK225.out 3
      have hfz16_4 := blk_frozen BK225.out 4
      go_wp2
      go_meet
      case rel => exact ⟨_, (true), hrf, H', ⟨by have := HJ3.out; first | omega | exact Nat.le_refl _⟩, ⟨by (with_reducible repeat (first | refine blk_drewN ?_ _ | refine blk_drew ?_ | refine blk_alloc ?_ _)); exact BK225.out⟩, ⟨hbl HB.out⟩⟩
     ·
      rw [if_neg c15] at H
      have c15b0 : (a1_3.toList == ([] : List UInt8)) = false := beq_eq_false_iff_ne.mpr c15
      have c15b1 : (a1_3.toList != ([] : List UInt8)) = true := bne_iff_ne.mpr c15
      (first | rw [c15b0] | (simp only [i64_w, i32_w]; rw [c15b0]) | skip)
      replace H := Option.bind_eq_some_iff.mp H
      obtain ⟨t228, A170, H⟩ := H
      replace H : (if t228 = true then ((laws_svGood.f kj3 (([(⟨a1_0, a1_1, a1_2, a1_3, a1_4⟩ : S29)] : List (S29)))).bind fun t232 => (if t232 = true then ((spec_AllSpoken.f kj3 l0 a1_0 a1_1 a1_2 a1_3 a1_4).bind fun t233 => (laws_FnSemverTermsHoldPre.j1 kj3 l0 a2 (!t233) a1_0 a1_1 a1_2 a1_3 a1_4)) else (laws_FnSemverTermsHoldPre.j1 kj3 l0 a2 true a1_0 a1_1 a1_2 a1_3 a1_4))) else (laws_FnSemverTermsHoldPre.j1 kj3 l0 a2 true a1_0 a1_1 a1_2 a1_3 a1_4)) = some r := H
      have A17 := Aside0.mk A170
      clear A170
      by_cases c18 : t228 = true
      ·
       subst c18
       have H1 : ((laws_svGood.f kj3 (([(⟨a1_0, a1_1, a1_2, a1_3, a1_4⟩ : S29)] : List (S29)))).bind fun t232 => (if t232 = true then ((spec_AllSpoken.f kj3 l0 a1_0 a1_1 a1_2 a1_3 a1_4).bind fun t233 => (laws_FnSemverTermsHoldPre.j1 kj3 l0 a2 (!t233) a1_0 a1_1 a1_2 a1_3 a1_4)) else (laws_FnSemverTermsHoldPre.j1 kj3 l0 a2 true a1_0 a1_1 a1_2 a1_3 a1_4))) = some r := by rw [if_pos rfl] at H; exact H
       clear H
       have H := H1
       clear H1
       obtain ⟨y229, hy229⟩ : ∃ y_ : List (S29), y_ = (([(⟨a1_0, a1_1, a1_2, a1_3, a1_4⟩ : S29)] : List (S29))) := ⟨_, rfl⟩
       replace H : ((laws_svGood.f kj3 y229).bind fun t232 => (if t232 = true then ((spec_AllSpoken.f kj3 l0 a1_0 a1_1 a1_2 a1_3 a1_4).bind fun t233 => (laws_FnSemverTermsHoldPre.j1 kj3 l0 a2 (!t233) a1_0 a1_1 a1_2 a1_3 a1_4)) else (laws_FnSemverTermsHoldPre.j1 kj3 l0 a2 true a1_0 a1_1 a1_2 a1_3 a1_4))) = some r := by first | (rw [hy229]; with_reducible exact H) | (have H2_ := (Option.bind_some _ _).symm.trans H; rw [hy229]; with_reducible exact H2_) | (have H2_ := (Option.bind_some _ _).symm.trans H; with_reducible exact H2_) | with_reducible exact H | (rw [hy229]; exact H) | exact H
       have Ny229 := Aside0.mk hy229
       clear hy229
       replace H := Option.bind_eq_some_iff.mp H
       obtain ⟨t232, A190, H⟩ := H
       replace H : (if t232 = true then ((spec_AllSpoken.f kj3 l0 a1_0 a1_1 a1_2 a1_3 a1_4).bind fun t233 => (laws_FnSemverTermsHoldPre.j1 kj3 l0 a2 (!t233) a1_0 a1_1 a1_2 a1_3 a1_4)) else (laws_FnSemverTermsHoldPre.j1 kj3 l0 a2 true a1_0 a1_1 a1_2 a1_3 a1_4)) = some r := H
       have A19 := Aside0.mk A190
       clear A190
       by_cases c20 : t232 = true
       ·
        subst c20
        have H1 : ((spec_AllSpoken.f kj3 l0 a1_0 a1_1 a1_2 a1_3 a1_4).bind fun t233 => (laws_FnSemverTermsHoldPre.j1 kj3 l0 a2 (!t233) a1_0 a1_1 a1_2 a1_3 a1_4)) = some r := by rw [if_pos rfl] at H; exact H
        clear H
        have H := H1
        clear H1
        replace H := Option.bind_eq_some_iff.mp H
        obtain ⟨t233, A210, H⟩ := H
        replace H : (laws_FnSemverTermsHoldPre.j1 kj3 l0 a2 (!t233) a1_0 a1_1 a1_2 a1_3 a1_4) = some r := H
        have A21 := Aside0.mk A210
        clear A210
        have H' := Aside0.mk H
        clear H
        have hcz22_0 : wc.cell? ⟨gb225, 0, none⟩ = some (.int .u64 a1_0) := (blk_cell BK225.out 0).trans rfl
        have hcz22_1 : wc.cell? ⟨gb225, 1, none⟩ = some (.int .u64 a1_1) := (blk_cell BK225.out 1).trans rfl
        have hcz22_2 : wc.cell? ⟨gb225, 2, none⟩ = some (.int .u64 a1_2) := (blk_cell BK225.out 2).trans rfl
        have hcz22_3 : wc.cell? ⟨gb225, 3, none⟩ = some (.string a1_3) := (blk_cell BK225.out 3).trans rfl
        have hcz22_4 : wc.cell? ⟨gb225, 4, none⟩ = some (.string a1_4) := (blk_cell BK225.out 4).trans rfl
        have hfz22_0 := blk_frozen BK225.out 0
        have hfz22_1 := blk_frozen BK225.out 1
        have hfz22_2 := blk_frozen BK225.out 2
        have hfz22_3 := blk_frozen BK225.out 3
        have hfz22_4 := blk_frozen BK225.out 4
        go_wp2_with (first | (go_at_call 74; (with_reducible refine (laws_scGood.calls kj3 _ _ l0 true _ ?side1 ?side2 A17.out).mono ?_); (case side1 => repeat (first | exact (Kd.C_below HR0.out HB.out) | (with_reducible refine Kd.C_alloc ?_ _) | (with_reducible refine Kd.C_drewN ?_ _) | (with_reducible refine Kd.C_drew ?_))); (case side2 => exact HC0.out); rintro e w23 ⟨rfl, hb⟩; have n0_ := Aside0.mk (blk_below (hbk BK225.out) hb); have n1_ := Aside0.mk (below_step (hbl HB.out) hb); clear BK225; clear HB; have BK225 := n0_; have HB := n1_; clear n0_ n1_; (try clear hb); (try clear hb2); (try clear hk); (try clear hi); have hcz24_0 : w23.cell? ⟨gb225, 0, none⟩ = some (.int .u64 a1_0) := (blk_cell BK225.out 0).trans rfl; have hcz24_1 : w23.cell? ⟨gb225, 1, none⟩ = some (.int .u64 a1_1) := (blk_cell BK225.out 1).trans rfl; have hcz24_2 : w23.cell? ⟨gb225, 2, none⟩ = some (.int .u64 a1_2) := (blk_cell BK225.out 2).trans rfl; have hcz24_3 : w23.cell? ⟨gb225, 3, none⟩ = some (.string a1_3) := (blk_cell BK225.out 3).trans rfl; have hcz24_4 : w23.cell? ⟨gb225, 4, none⟩ = some (.string a1_4) := (blk_cell BK225.out 4).trans rfl; have hfz24_0 := blk_frozen BK225.out 0; have hfz24_1 := blk_frozen BK225.out 1; have hfz24_2 := blk_frozen BK225.out 2; have hfz24_3 := blk_frozen BK225.out 3; have hfz24_4 := blk_frozen BK225.out 4) | ((with_reducible refine gate_dst (N := 25) rfl ?_); (try (refine gate_guard (by rfl) ?_; dsimp only)); refine Kd.R_lit k29 _ 29 ?hg (N := 25) ?hd (xs := ([(⟨a1_0, a1_1, a1_2, a1_3, a1_4⟩ : S29)] : List (S29))) (inner := [.int .u64 a1_0, .int .u64 a1_1, .int .u64 a1_2, .string a1_3, .string a1_4]) (ok := fun _ => True) (okp := fun _ => True) ?hr ?hp (fun _ hk => hk) trivial (Below.refl _ _) (Nat.le_refl _) (by simp) ?_; (case hd => rfl); (case hg => rfl); (case hr => first | (go_simp; done) | (go_simp; rfl)); (case hp => exact (Reps.c5 (show Kd.M k29 _ _ _ (⟨a1_0, a1_1, a1_2, a1_3, a1_4⟩ : S29) [.int .u64 a1_0, .int .u64 a1_1, .int .u64 a1_2, .string a1_3, .string a1_4] from (k29_mkM _ _ _ (⟨a1_0, a1_1, a1_2, a1_3, a1_4⟩ : S29) )) (Reps.none _ _))); intro v230 w25 ho26 hb hg_ hnew_; clear hg_ hnew_; (first | rw [← Ny229.out] at ho26 | (simp only [Int.reduceToNat] at ho26; rw [← Ny229.out] at ho26)); have n0_ := Aside0.mk (Kd.R_lower (Kd.R_newB ho26 (hbk BK225.out)) (below_size (hbl HB.out))); have n1_ := Aside0.mk (blk_below (hbk BK225.out) hb); have n2_ := Aside0.mk (below_step (hbl HB.out) hb); clear BK225; clear HB; have HO231 := n0_; have BK225 := n1_; have HB := n2_; clear n0_ n1_ n2_; clear hb ho26; obtain ⟨Ao27, co27, eo27⟩ := Kd.R_slice HO231.out; subst eo27) | (go_at_call 26; (with_reducible refine (laws_svGood.calls kj3 _ _ y229 true _ ?side1 ?side2 A19.out).mono ?_); (case side1 => repeat (first | exact (Kd.R_reads' HO231.out).2.2 | (with_reducible refine Kd.C_alloc ?_ _) | (with_reducible refine Kd.C_drewN ?_ _) | (with_reducible refine Kd.C_drew ?_))); (case side2 => exact (Kd.R_reads' HO231.out).2.1); rintro e w28 ⟨rfl, hb⟩; have n0_ := Aside0.mk (Kd.R_below (by (with_reducible repeat (first | apply Kd.R_alloc | apply Kd.R_drewN | apply Kd.R_drew)); exact HO231.out) hb); have n1_ := Aside0.mk (blk_below (hbk BK225.out) hb); have n2_ := Aside0.mk (below_step (hbl HB.out) hb); clear HO231; clear BK225; clear HB; have HO231 := n0_; have BK225 := n1_; have HB := n2_; clear n0_ n1_ n2_; (try clear hb); (try clear hb2); (try clear hk); (try clear hi); have hcz29_0 : w28.cell? ⟨gb225, 0, none⟩ = some (.int .u64 a1_0) := (blk_cell BK225.out 0).trans rfl; have hcz29_1 : w28.cell? ⟨gb225, 1, none⟩ = some (.int .u64 a1_1) := (blk_cell BK225.out 1).trans rfl; have hcz29_2 : w28.cell? ⟨gb225, 2, none⟩ = some (.int .u64 a1_2) := (blk_cell BK225.out 2).trans rfl; have hcz29_3 : w28.cell? ⟨gb225, 3, none⟩ = some (.string a1_3) := (blk_cell BK225.out 3).trans rfl; have hcz29_4 : w28.cell? ⟨gb225, 4, none⟩ = some (.string a1_4) := (blk_cell BK225.out 4).trans rfl; have hfz29_0 := blk_frozen BK225.out 0; have hfz29_1 := blk_frozen BK225.out 1; have hfz29_2 := blk_frozen BK225.out 2; have hfz29_3 := blk_frozen BK225.out 3; have hfz29_4 := blk_frozen BK225.out 4) | (go_at_call 75; (with_reducible refine (spec_AllSpoken.calls kj3 _ _ l0 a1_0 a1_1 a1_2 a1_3 a1_4 t233 _ ?side1 ?side2 A21.out).mono ?_); (case side1 => repeat (first | exact (Kd.C_below HR0.out HB.out) | (with_reducible refine Kd.C_alloc ?_ _) | (with_reducible refine Kd.C_drewN ?_ _) | (with_reducible refine Kd.C_drew ?_))); (case side2 => exact HC0.out); rintro e w30 ⟨rfl, hb⟩; have n0_ := Aside0.mk (Kd.R_below (by (with_reducible repeat (first | apply Kd.R_alloc | apply Kd.R_drewN | apply Kd.R_drew)); exact HO231.out) hb); have n1_ := Aside0.mk (blk_below (hbk BK225.out) hb); have n2_ := Aside0.mk (below_step (hbl HB.out) hb); clear HO231; clear BK225; clear HB; have HO231 := n0_; have BK225 := n1_; have HB := n2_; clear n0_ n1_ n2_; (try clear hb); (try clear hb2); (try clear hk); (try clear hi)))
        go_meet
        case rel => exact ⟨_, (!t233), hrf, H', ⟨by have := HJ3.out; first | omega | exact Nat.le_refl _⟩, ⟨by (with_reducible repeat (first | refine blk_drewN ?_ _ | refine blk_drew ?_ | refine blk_alloc ?_ _)); exact BK225.out⟩, ⟨hbl HB.out⟩⟩
       ·
        replace c20 := Bool.eq_false_iff.mpr c20
        subst c20
        have H1 : (laws_FnSemverTermsHoldPre.j1 kj3 l0 a2 true a1_0 a1_1 a1_2 a1_3 a1_4) = some r := by rw [if_neg (show ¬ (false = true) by decide)] at H; exact H
        clear H
        have H := H1
        clear H1
        have H' := Aside0.mk H
        clear H
        have hcz31_0 : wc.cell? ⟨gb225, 0, none⟩ = some (.int .u64 a1_0) := (blk_cell BK225.out 0).trans rfl
        have hcz31_1 : wc.cell? ⟨gb225, 1, none⟩ = some (.int .u64 a1_1) := (blk_cell BK225.out 1).trans rfl
        have hcz31_2 : wc.cell? ⟨gb225, 2, none⟩ = some (.int .u64 a1_2) := (blk_cell BK225.out 2).trans rfl
        have hcz31_3 : wc.cell? ⟨gb225, 3, none⟩ = some (.string a1_3) := (blk_cell BK225.out 3).trans rfl
        have hcz31_4 : wc.cell? ⟨gb225, 4, none⟩ = some (.string a1_4) := (blk_cell BK225.out 4).trans rfl
        have hfz31_0 := blk_frozen BK225.out 0
        have hfz31_1 := blk_frozen BK225.out 1
        have hfz31_2 := blk_frozen BK225.out 2
        have hfz31_3 := blk_frozen BK225.out 3
        have hfz31_4 := blk_frozen BK225.out 4
        go_wp2_with (first | (go_at_call 74; (with_reducible refine (laws_scGood.calls kj3 _ _ l0 true _ ?side1 ?side2 A17.out).mono ?_); (case side1 => repeat (first | exact (Kd.C_below HR0.out HB.out) | (with_reducible refine Kd.C_alloc ?_ _) | (with_reducible refine Kd.C_drewN ?_ _) | (with_reducible refine Kd.C_drew ?_))); (case side2 => exact HC0.out); rintro e w32 ⟨rfl, hb⟩; have n0_ := Aside0.mk (blk_below (hbk BK225.out) hb); have n1_ := Aside0.mk (below_step (hbl HB.out) hb); clear BK225; clear HB; have BK225 := n0_; have HB := n1_; clear n0_ n1_; (try clear hb); (try clear hb2); (try clear hk); (try clear hi); have hcz33_0 : w32.cell? ⟨gb225, 0, none⟩ = some (.int .u64 a1_0) := (blk_cell BK225.out 0).trans rfl; have hcz33_1 : w32.cell? ⟨gb225, 1, none⟩ = some (.int .u64 a1_1) := (blk_cell BK225.out 1).trans rfl; have hcz33_2 : w32.cell? ⟨gb225, 2, none⟩ = some (.int .u64 a1_2) := (blk_cell BK225.out 2).trans rfl; have hcz33_3 : w32.cell? ⟨gb225, 3, none⟩ = some (.string a1_3) := (blk_cell BK225.out 3).trans rfl; have hcz33_4 : w32.cell? ⟨gb225, 4, none⟩ = some (.string a1_4) := (blk_cell BK225.out 4).trans rfl; have hfz33_0 := blk_frozen BK225.out 0; have hfz33_1 := blk_frozen BK225.out 1; have hfz33_2 := blk_frozen BK225.out 2; have hfz33_3 := blk_frozen BK225.out 3; have hfz33_4 := blk_frozen BK225.out 4) | ((with_reducible refine gate_dst (N := 25) rfl ?_); (try (refine gate_guard (by rfl) ?_; dsimp only)); refine Kd.R_lit k29 _ 29 ?hg (N := 25) ?hd (xs := ([(⟨a1_0, a1_1, a1_2, a1_3, a1_4⟩ : S29)] : List (S29))) (inner := [.int .u64 a1_0, .int .u64 a1_1, .int .u64 a1_2, .string a1_3, .string a1_4]) (ok := fun _ => True) (okp := fun _ => True) ?hr ?hp (fun _ hk => hk) trivial (Below.refl _ _) (Nat.le_refl _) (by simp) ?_; (case hd => rfl); (case hg => rfl); (case hr => first | (go_simp; done) | (go_simp; rfl)); (case hp => exact (Reps.c5 (show Kd.M k29 _ _ _ (⟨a1_0, a1_1, a1_2, a1_3, a1_4⟩ : S29) [.int .u64 a1_0, .int .u64 a1_1, .int .u64 a1_2, .string a1_3, .string a1_4] from (k29_mkM _ _ _ (⟨a1_0, a1_1, a1_2, a1_3, a1_4⟩ : S29) )) (Reps.none _ _))); intro v230 w34 ho35 hb hg_ hnew_; clear hg_ hnew_; (first | rw [← Ny229.out] at ho35 | (simp only [Int.reduceToNat] at ho35; rw [← Ny229.out] at ho35)); have n0_ := Aside0.mk (Kd.R_lower (Kd.R_newB ho35 (hbk BK225.out)) (below_size (hbl HB.out))); have n1_ := Aside0.mk (blk_below (hbk BK225.out) hb); have n2_ := Aside0.mk (below_step (hbl HB.out) hb); clear BK225; clear HB; have HO231 := n0_; have BK225 := n1_; have HB := n2_; clear n0_ n1_ n2_; clear hb ho35; obtain ⟨Ao36, co36, eo36⟩ := Kd.R_slice HO231.out; subst eo36) | (go_at_call 26; (with_reducible refine (laws_svGood.calls kj3 _ _ y229 false _ ?side1 ?side2 A19.out).mono ?_); (case side1 => repeat (first | exact (Kd.R_reads' HO231.out).2.2 | (with_reducible refine Kd.C_alloc ?_ _) | (with_reducible refine Kd.C_drewN ?_ _) | (with_reducible refine Kd.C_drew ?_))); (case side2 => exact (Kd.R_reads' HO231.out).2.1); rintro e w37 ⟨rfl, hb⟩; have n0_ := Aside0.mk (Kd.R_below (by (with_reducible repeat (first | apply Kd.R_alloc | apply Kd.R_drewN | apply Kd.R_drew)); exact HO231.out) hb); have n1_ := Aside0.mk (blk_below (hbk BK225.out) hb); have n2_ := Aside0.mk (below_step (hbl HB.out) hb); clear HO231; clear BK225; clear HB; have HO231 := n0_; have BK225 := n1_; have HB := n2_; clear n0_ n1_ n2_; (try clear hb); (try clear hb2); (try clear hk); (try clear hi)))
        go_meet
        case rel => exact ⟨_, (true), hrf, H', ⟨by have := HJ3.out; first | omega | exact Nat.le_refl _⟩, ⟨by (with_reducible repeat (first | refine blk_drewN ?_ _ | refine blk_drew ?_ | refine blk_alloc ?_ _)); exact BK225.out⟩, ⟨hbl HB.out⟩⟩
      ·
       replace c18 := Bool.eq_false_iff.mpr c18
       subst c18
       have H1 : (laws_FnSemverTermsHoldPre.j1 kj3 l0 a2 true a1_0 a1_1 a1_2 a1_3 a1_4) = some r := by rw [if_neg (show ¬ (false = true) by decide)] at H; exact H
       clear H
       have H := H1
       clear H1
       have H' := Aside0.mk H
       clear H
       have hcz38_0 : wc.cell? ⟨gb225, 0, none⟩ = some (.int .u64 a1_0) := (blk_cell BK225.out 0).trans rfl
       have hcz38_1 : wc.cell? ⟨gb225, 1, none⟩ = some (.int .u64 a1_1) := (blk_cell BK225.out 1).trans rfl
       have hcz38_2 : wc.cell? ⟨gb225, 2, none⟩ = some (.int .u64 a1_2) := (blk_cell BK225.out 2).trans rfl
       have hcz38_3 : wc.cell? ⟨gb225, 3, none⟩ = some (.string a1_3) := (blk_cell BK225.out 3).trans rfl
       have hcz38_4 : wc.cell? ⟨gb225, 4, none⟩ = some (.string a1_4) := (blk_cell BK225.out 4).trans rfl
       have hfz38_0 := blk_frozen BK225.out 0
       have hfz38_1 := blk_frozen BK225.out 1
       have hfz38_2 := blk_frozen BK225.out 2
       have hfz38_3 := blk_frozen BK225.out 3
       have hfz38_4 := blk_frozen BK225.out 4
       go_wp2_with (first | (go_at_call 74; (with_reducible refine (laws_scGood.calls kj3 _ _ l0 false _ ?side1 ?side2 A17.out).mono ?_); (case side1 => repeat (first | exact (Kd.C_below HR0.out HB.out) | (with_reducible refine Kd.C_alloc ?_ _) | (with_reducible refine Kd.C_drewN ?_ _) | (with_reducible refine Kd.C_drew ?_))); (case side2 => exact HC0.out); rintro e w39 ⟨rfl, hb⟩; have n0_ := Aside0.mk (blk_below (hbk BK225.out) hb); have n1_ := Aside0.mk (below_step (hbl HB.out) hb); clear BK225; clear HB; have BK225 := n0_; have HB := n1_; clear n0_ n1_; (try clear hb); (try clear hb2); (try clear hk); (try clear hi)))
       go_meet
       case rel => exact ⟨_, (true), hrf, H', ⟨by have := HJ3.out; first | omega | exact Nat.le_refl _⟩, ⟨by (with_reducible repeat (first | refine blk_drewN ?_ _ | refine blk_drew ?_ | refine blk_alloc ?_ _)); exact BK225.out⟩, ⟨hbl HB.out⟩⟩
    case rest =>
     clear HC14
     try clear c1
     try clear c2
     try clear p2
     try clear c5
     try clear c6
     try clear c7
     try clear c13
     try clear c15
     try clear c15b0
     try clear c15b1
     try clear c18
     try clear c19
     try clear c20
     try clear hcz10_0
     try clear hcz10_1
     try clear hcz10_2
     try clear hcz10_3
     try clear hcz10_4
     try clear hcz16_0
     try clear hcz16_1
     try clear hcz16_2
     try clear hcz16_3
     try clear hcz16_4
     try clear hcz22_0
     try clear hcz22_1
     try clear hcz22_2
     try clear hcz22_3
     try clear hcz22_4
     try clear hcz24_0
     try clear hcz24_1
     try clear hcz24_2
     try clear hcz24_3
     try clear hcz24_4
     try clear hcz29_0
     try clear hcz29_1
     try clear hcz29_2
     try clear hcz29_3
     try clear hcz29_4
     try clear hcz31_0
     try clear hcz31_1
     try clear hcz31_2
     try clear hcz31_3
     try clear hcz31_4
     try clear hcz33_0
     try clear hcz33_1
     try clear hcz33_2
     try clear hcz33_3
     try clear hcz33_4
     try clear hcz38_0
     try clear hcz38_1
     try clear hcz38_2
     try clear hcz38_3
     try clear hcz38_4
     try clear hfz10_0
     try clear hfz10_1
     try clear hfz10_2
     try clear hfz10_3
     try clear hfz10_4
     try clear hfz16_0
     try clear hfz16_1
     try clear hfz16_2
     try clear hfz16_3
     try clear hfz16_4
     try clear hfz22_0
     try clear hfz22_1
     try clear hfz22_2
     try clear hfz22_3
     try clear hfz22_4
     try clear hfz24_0
     try clear hfz24_1
     try clear hfz24_2
     try clear hfz24_3
     try clear hfz24_4
     try clear hfz29_0
     try clear hfz29_1
     try clear hfz29_2
     try clear hfz29_3
     try clear hfz29_4
     try clear hfz31_0
     try clear hfz31_1
     try clear hfz31_2
     try clear hfz31_3
     try clear hfz31_4
     try clear hfz33_0
     try clear hfz33_1
     try clear hfz33_2
     try clear hfz33_3
     try clear hfz33_4
     try clear hfz38_0
     try clear hfz38_1
     try clear hfz38_2
     try clear hfz38_3
     try clear hfz38_4
     try clear p2
     obtain ⟨kq, x34_13, rfl, HA, HJ13, BK225, HB⟩ := hcut
     cases kq with
     | zero => exact absurd HA.out (by simp [laws_FnSemverTermsHoldPre.j1])
     | succ kj13 =>
      have H := HA.out
      clear HA
      simp only [laws_FnSemverTermsHoldPre.j1] at H
      by_cases c40 : x34_13 = true
      ·
       subst c40
       have H1 : (some true) = some r := by rw [if_pos rfl] at H; exact H
       clear H
       have H := H1
       clear H1
       obtain rfl := Option.some.inj H
       go_wp2
       go_ret
       exact ⟨hrf, hbl HB.out⟩
      ·
       replace c40 := Bool.eq_false_iff.mpr c40
       subst c40
       have H1 : ((Hand.TermsHold.f l0 a1_0 a1_1 a1_2 a1_3 a1_4 a2).bind fun t234 => ((spec_Satisfies.f kj13 l0 a1_0 a1_1 a1_2 a1_3 a1_4 a2).bind fun t235 => (some (t234 == t235)))) = some r := by rw [if_neg (show ¬ (false = true) by decide)] at H; exact H
       clear H
       have H := H1
       clear H1
       replace H := Option.bind_eq_some_iff.mp H
       obtain ⟨t234, A410, H⟩ := H
       replace H : ((spec_Satisfies.f kj13 l0 a1_0 a1_1 a1_2 a1_3 a1_4 a2).bind fun t235 => (some (t234 == t235))) = some r := H
       have A41 := Aside0.mk A410
       clear A410
       replace H := Option.bind_eq_some_iff.mp H
       obtain ⟨t235, A420, H⟩ := H
       replace H : (some (t234 == t235)) = some r := H
       have A42 := Aside0.mk A420
       clear A420
       obtain rfl := Option.some.inj H
       try go_wp2
       have n0_ := Aside0.mk (blk_drew BK225.out)
       have n1_ := Aside0.mk (below_drew1 HB.out)
       clear BK225
       clear HB
       have BK225 := n0_
       have HB := n1_
       clear n0_ n1_
       refine start_ (n := 10) (S := fun w' => w'.cell? ⟨gb225, 0, none⟩ = some (.int .u64 a1_0) ∧ w'.cell? ⟨gb225, 1, none⟩ = some (.int .u64 a1_1) ∧ w'.cell? ⟨gb225, 2, none⟩ = some (.int .u64 a1_2) ∧ w'.cell? ⟨gb225, 3, none⟩ = some (.string a1_3) ∧ w'.cell? ⟨gb225, 4, none⟩ = some (.string a1_4)) (ds := []) #[false, false, false, false, false, false, false, false, false, false] (by kernel_rfl) rfl rfl ⟨(blk_cell BK225.out 0).trans rfl, (blk_cell BK225.out 1).trans rfl, (blk_cell BK225.out 2).trans rfl, (blk_cell BK225.out 3).trans rfl, (blk_cell BK225.out 4).trans rfl⟩ (fun hHeld => ?_); refine with_tabW laws_FnSemverTermsHoldPre.tab5 laws_FnSemverTermsHoldPre.bits5 (fun HT_ HW_ => ?_)
       generalize wc.drew = w43 at BK225 HB hHeld ⊢
       refine pure_ (i := 0) (N := some 35) (v := ?_) (a' := ?_) #[true, false, false, false, false, false, false, false, false, false] rfl rfl (any_of HT_.out (by kernel_rfl)) (fun _ _ _ h => h) (Or.inl ⟨by rfl, ?_⟩) ?_ ?_
       rotate_left
       ·
        intro w'
        go_simp
        with_reducible rfl
       rotate_left
       ·
        simp only [Act.put, putA, putZ, putS, i64_w, i32_w]
        rfl
       refine pure_ (i := 2) (N := some 37) (v := ?_) (a' := ?_) #[true, false, true, false, false, false, false, false, false, false] rfl rfl (any_of HT_.out (by kernel_rfl)) (fun _ _ _ h => h) (Or.inl ⟨by rfl, ?_⟩) ?_ ?_
       rotate_left
       ·
        intro w'
        go_simp
        with_reducible rfl
       rotate_left
       ·
        simp only [Act.put, putA, putZ, putS, i64_w, i32_w]
        rfl
       refine pure_ (i := 4) (N := some 39) (v := ?_) (a' := ?_) #[true, false, true, false, true, false, false, false, false, false] rfl rfl (any_of HT_.out (by kernel_rfl)) (fun _ _ _ h => h) (Or.inl ⟨by rfl, ?_⟩) ?_ ?_
       rotate_left
       ·
        intro w'
        go_simp
        with_reducible rfl
       rotate_left
       ·
        simp only [Act.put, putA, putZ, putS, i64_w, i32_w]
        rfl
       refine pure_ (i := 6) (N := some 41) (v := ?_) (a' := ?_) #[true, false, true, false, true, false, true, false, false, false] rfl rfl (any_of HT_.out (by kernel_rfl)) (fun _ _ _ h => h) (Or.inl ⟨by rfl, ?_⟩) ?_ ?_
       rotate_left
       ·
        intro w'
        go_simp
        with_reducible rfl
       rotate_left
       ·
        simp only [Act.put, putA, putZ, putS, i64_w, i32_w]
        rfl
       refine take_ (i := 1) (N := some 36) (v := ?_) (a' := ?_) #[true, true, true, false, true, false, true, false, false, false] rfl rfl (take_ofW HT_.out HW_.out (by kernel_rfl)) (fun _ _ _ h => h) (Or.inl ⟨by rfl, ?_⟩) hHeld ?_ ?_
       rotate_left
       ·
        rintro w' ⟨s0, s1, s2, s3, s4⟩
        go_simp
        with_reducible rfl
       rotate_left
       ·
        simp only [Act.put, putA, putZ, putS, i64_w, i32_w]
        rfl
       refine take_ (i := 5) (N := some 40) (v := ?_) (a' := ?_) #[true, true, true, false, true, true, true, false, false, false] rfl rfl (take_ofW HT_.out HW_.out (by kernel_rfl)) (fun _ _ _ h => h) (Or.inl ⟨by rfl, ?_⟩) hHeld ?_ ?_
       rotate_left
       ·
        rintro w' ⟨s0, s1, s2, s3, s4⟩
        go_simp
        with_reducible rfl
       rotate_left
       ·
        simp only [Act.put, putA, putZ, putS, i64_w, i32_w]
        rfl
       refine one_ (i := 3) (N := some 38) #[true, true, true, true, true, true, true, false, false, false] rfl rfl (one_of HT_.out (by kernel_rfl)) (by decide) (fun K hK => ?_)
       refine goes_ Tryd.func70 (by kernel_rfl) rfl #[.slice A0 l0.length c0, .agg #[.int .u64 a1_0, .int .u64 a1_1, .int .u64 a1_2, .string a1_3, .string a1_4], .bool a2] (by rfl) rfl rfl (by (try simp only [List.map_toArray, List.map_cons, List.map_nil]); first | done | rfl | (simp only [List.length_drop, List.length_take]; rfl)) ?_
       with_reducible refine (Hand.TermsHold.calls _ _ l0 a1_0 a1_1 a1_2 a1_3 a1_4 a2 t234 _ ?side1 ?side2 ?gl1 A41.out).mono ?_
       case gl1 => (first | exact HG.out | exact Hand.Gl.below HG.out (hbl HB.out))
       (case side1 => repeat (first | exact (Kd.C_below HR0.out HB.out) | (with_reducible refine Kd.C_alloc ?_ _) | (with_reducible refine Kd.C_drewN ?_ _) | (with_reducible refine Kd.C_drew ?_)))
       (case side2 => exact HC0.out)
       rintro e w44 ⟨rfl, hb⟩
       refine ⟨_, rfl, ?_⟩
       have n0_ := Aside0.mk (blk_below (hbk BK225.out) hb)
       have n1_ := Aside0.mk (below_step (hbl HB.out) hb)
       clear BK225
       clear HB
       have BK225 := n0_
       have HB := n1_
       clear n0_ n1_
       (try clear hb)
       (try clear hb2)
       (try clear hk)
       (try clear hi)
       refine hK.out _ _ ⟨(blk_cell BK225.out 0).trans rfl, (blk_cell BK225.out 1).trans rfl, (blk_cell BK225.out 2).trans rfl, (blk_cell BK225.out 3).trans rfl, (blk_cell BK225.out 4).trans rfl⟩ (fun hHeld => ?_)
       clear hK K
       refine norm_ (a' := ?_) ?_ ?_
       rotate_left
       ·
        show Act.put _ (some 38) _ = _
        simp only [Act.put, putA, putZ, putS, i64_w, i32_w]
        rfl
       refine one_ (i := 7) (N := some 42) #[true, true, true, true, true, true, true, true, false, false] rfl rfl (one_of HT_.out (by kernel_rfl)) (by decide) (fun K hK => ?_)
       refine goes_ Tryd.func76 (by kernel_rfl) rfl #[.slice A0 l0.length c0, .agg #[.int .u64 a1_0, .int .u64 a1_1, .int .u64 a1_2, .string a1_3, .string a1_4], .bool a2] (by rfl) rfl rfl (by (try simp only [List.map_toArray, List.map_cons, List.map_nil]); first | done | rfl | (simp only [List.length_drop, List.length_take]; rfl)) ?_
       with_reducible refine (spec_Satisfies.calls kj13 _ _ l0 a1_0 a1_1 a1_2 a1_3 a1_4 a2 t235 _ ?side1 ?side2 A42.out).mono ?_
       (case side1 => repeat (first | exact (Kd.C_below HR0.out HB.out) | (with_reducible refine Kd.C_alloc ?_ _) | (with_reducible refine Kd.C_drewN ?_ _) | (with_reducible refine Kd.C_drew ?_)))
       (case side2 => exact HC0.out)
       rintro e w45 ⟨rfl, hb⟩
       refine ⟨_, rfl, ?_⟩
       have n0_ := Aside0.mk (blk_below (hbk BK225.out) hb)
       have n1_ := Aside0.mk (below_step (hbl HB.out) hb)
       clear BK225
       clear HB
       have BK225 := n0_
       have HB := n1_
       clear n0_ n1_
       (try clear hb)
       (try clear hb2)
       (try clear hk)
       (try clear hi)
       refine hK.out _ _ ⟨(blk_cell BK225.out 0).trans rfl, (blk_cell BK225.out 1).trans rfl, (blk_cell BK225.out 2).trans rfl, (blk_cell BK225.out 3).trans rfl, (blk_cell BK225.out 4).trans rfl⟩ (fun hHeld => ?_)
       clear hK K
       refine norm_ (a' := ?_) ?_ ?_
       rotate_left
       ·
        show Act.put _ (some 42) _ = _
        simp only [Act.put, putA, putZ, putS, i64_w, i32_w]
        rfl
       refine pure_ (i := 8) (N := some 43) (v := ?_) (a' := ?_) #[true, true, true, true, true, true, true, true, true, false] rfl rfl (any_of HT_.out (by kernel_rfl)) (fun _ _ _ h => h) (Or.inl ⟨by rfl, ?_⟩) ?_ ?_
       rotate_left
       ·
        intro w'
        go_simp
        with_reducible rfl
       rotate_left
       ·
        simp only [Act.put, putA, putZ, putS, i64_w, i32_w]
        rfl
       refine pure_ (i := 9) (N := some 6) (v := ?_) (a' := ?_) #[true, true, true, true, true, true, true, true, true, true] rfl rfl (any_of HT_.out (by kernel_rfl)) (fun _ _ _ h => h) (Or.inl ⟨by rfl, ?_⟩) ?_ ?_
       rotate_left
       ·
        intro w'
        go_simp
        with_reducible rfl
       rotate_left
       ·
        simp only [Act.put, putA, putZ, putS, i64_w, i32_w]
        rfl
       refine done_ (done_of HT_.out (by kernel_rfl)) ?_
       try go_wp2
       go_ret
       exact ⟨hrf, hbl HB.out⟩

end Go.Proofs.YtalpehfjjidfhaaDoor.MP
