-- Written by a program of this session (wip/tools/myprint.py over the kit's print).
import Derived.Test.YtalpehfjjidfhaaDoorMPx0
import Derived.Test.YtalpehfjjidfhaaDoorMPx1
import Derived.Test.YtalpehfjjidfhaaDoorMPx6
namespace Go.Proofs.YtalpehfjjidfhaaDoor.MP
open Go.RowKit Go.Proofs.YtalpehfjjidfhaaDoorW.PrintWords Go.Proofs.YtalpehfjjidfhaaDoorW.PrintLast Go.Proofs.YtalpehfjjidfhaaDoorW.PrintMore Go.Proofs.YtalpehfjjidfhaaDoor
attribute [local go_sem] max2_int min2_int max_two min_two max_three min_three max_four min_four   -- for this text's walks alone
set_option linter.unusedVariables false
set_option linter.unusedSimpArgs false

/-! ### spec_ComparePre: function 112 -/
mutual
def spec_ComparePre.l0 : Nat → List ByteArray → List ByteArray → Int → Option (Int)
 | 0, _, _, _ => none
 | k + 1, x5, x6, x7 => if x7 < (x5.length : Int) then (spec_ComparePre.j1 k x5 x6 x7 (decide (x7 < (x6.length : Int)))) else (spec_ComparePre.j1 k x5 x6 x7 false)
def spec_ComparePre.j1 : Nat → List ByteArray → List ByteArray → Int → Bool → Option (Int)
 | 0, _, _, _, _ => none
 | k + 1, x5, x6, x7, x32 => if x32 = true then (if 0 ≤ x7 then (if x7 < (x5.length : Int) then (if x7 < (x6.length : Int) then ((spec_ComparePart.f k (rdOf ByteArray.empty x5 x7) (rdOf ByteArray.empty x6 x7)).bind fun t184 => (if t184 = 0 then (spec_ComparePre.l0 k x5 x6 (wrap64 (x7 + 1))) else (some t184))) else (none)) else (none)) else (none)) else ((spec_order.f (IntKind.u64.wrap ((x5.length : Int))) (IntKind.u64.wrap ((x6.length : Int)))).bind fun t185 => (some t185))
end
def spec_ComparePre.f (k : Nat) (a0 : ByteArray) (a1 : ByteArray) : Option (Int) := if a0.toList = a1.toList then (some 0) else (if a0.toList = ([] : List UInt8) then (some 1) else (if a1.toList = ([] : List UInt8) then (some (-1)) else ((spec_Identifiers.f k a0).bind fun t176 => ((spec_Identifiers.f k a1).bind fun t179 => (spec_ComparePre.l0 k t176 t179 0)))))
theorem spec_ComparePre.mono_l : ∀ k, (∀ y0 y1 y2, LeO (spec_ComparePre.l0 k y0 y1 y2) (spec_ComparePre.l0 (k + 1) y0 y1 y2)) ∧ (∀ y0 y1 y2 y3, LeO (spec_ComparePre.j1 k y0 y1 y2 y3) (spec_ComparePre.j1 (k + 1) y0 y1 y2 y3))
 | 0 => ⟨fun _ _ _ r h => by simp [spec_ComparePre.l0] at h, fun _ _ _ _ r h => by simp [spec_ComparePre.j1] at h⟩
 | k + 1 => by
  obtain ⟨ih0, ih1⟩ := spec_ComparePre.mono_l k
  refine ⟨?_, ?_⟩
  ·
   intro y0 y1 y2
   unfold spec_ComparePre.l0
   repeat' first
   | (with_reducible exact ih0 _ _ _)
   | (with_reducible exact ih1 _ _ _ _)
   | (with_reducible exact spec_ComparePart.mono _ _ _)
   | (with_reducible exact spec_Identifiers.mono _ _)
   | (with_reducible exact LeO.refl _)
   | (with_reducible exact LeO.none _)
   | (with_reducible refine LeO.ite ?_ ?_)
   | (with_reducible refine LeO.bind ?_ (fun _ => ?_))
   | exact ih0 _ _ _
   | exact ih1 _ _ _ _
   | exact spec_ComparePart.mono _ _ _
   | exact spec_Identifiers.mono _ _
   | exact LeO.none _
   | refine LeO.ite ?_ ?_
   | refine LeO.bind ?_ (fun _ => ?_)
  ·
   intro y0 y1 y2 y3
   unfold spec_ComparePre.j1
   repeat' first
   | (with_reducible exact ih0 _ _ _)
   | (with_reducible exact ih1 _ _ _ _)
   | (with_reducible exact spec_ComparePart.mono _ _ _)
   | (with_reducible exact spec_Identifiers.mono _ _)
   | (with_reducible exact LeO.refl _)
   | (with_reducible exact LeO.none _)
   | (with_reducible refine LeO.ite ?_ ?_)
   | (with_reducible refine LeO.bind ?_ (fun _ => ?_))
   | exact ih0 _ _ _
   | exact ih1 _ _ _ _
   | exact spec_ComparePart.mono _ _ _
   | exact spec_Identifiers.mono _ _
   | exact LeO.none _
   | refine LeO.ite ?_ ?_
   | refine LeO.bind ?_ (fun _ => ?_)
theorem spec_ComparePre.mono : ∀ a0 a1 k, LeO (spec_ComparePre.f k a0 a1) (spec_ComparePre.f (k + 1) a0 a1) := by
 intro a0 a1 k
 obtain ⟨ih0, ih1⟩ := spec_ComparePre.mono_l k
 unfold spec_ComparePre.f
 repeat' first
   | (with_reducible exact ih0 _ _ _)
   | (with_reducible exact ih1 _ _ _ _)
   | (with_reducible exact spec_ComparePart.mono _ _ _)
   | (with_reducible exact spec_Identifiers.mono _ _)
   | (with_reducible exact LeO.refl _)
   | (with_reducible exact LeO.none _)
   | (with_reducible refine LeO.ite ?_ ?_)
   | (with_reducible refine LeO.bind ?_ (fun _ => ?_))
   | exact ih0 _ _ _
   | exact ih1 _ _ _ _
   | exact spec_ComparePart.mono _ _ _
   | exact spec_Identifiers.mono _ _
   | exact LeO.none _
   | refine LeO.ite ?_ ?_
   | refine LeO.bind ?_ (fun _ => ?_)
set_option maxHeartbeats 8000000 in
set_option maxRecDepth 100000 in
theorem spec_ComparePre.calls (k : Nat) (a0 : ByteArray) (a1 : ByteArray) (r : Int) (w : World) (h : spec_ComparePre.f k a0 a1 = some r) :
  Calls Tryd.prog 112 #[.string a0, .string a1] w fun e w' => e = .returned (.int .i64 r) ∧ Below w.heap.size w w' := by
 have HB := Aside0.mk (Below.refl w.heap.size w)
 have H : (if a0.toList = a1.toList then (some 0) else (if a0.toList = ([] : List UInt8) then (some 1) else (if a1.toList = ([] : List UInt8) then (some (-1)) else ((spec_Identifiers.f k a0).bind fun t176 => ((spec_Identifiers.f k a1).bind fun t179 => (spec_ComparePre.l0 k t176 t179 0)))))) = some r := h
 clear h
 by_cases c3 : a0.toList = a1.toList
 ·
  rw [if_pos c3] at H
  have c3b0 : (a0.toList == a1.toList) = true := beq_iff_eq.mpr c3
  have c3b1 : (a0.toList != a1.toList) = false := bne_eq_false_iff_eq.mpr c3
  clear c3
  obtain rfl := Option.some.inj H
  go_enter Tryd.func112, Tryd.ntmps112
  go_wp2
  repeat (go_quiet (fail); try go_wp2)
  go_ret
  exact ⟨hrf, hbl HB.out⟩
 ·
  rw [if_neg c3] at H
  have c3b0 : (a0.toList == a1.toList) = false := beq_eq_false_iff_ne.mpr c3
  have c3b1 : (a0.toList != a1.toList) = true := bne_iff_ne.mpr c3
  by_cases c4 : a0.toList = ([] : List UInt8)
  ·
   rw [if_pos c4] at H
   have c4b0 : (a0.toList == ([] : List UInt8)) = true := beq_iff_eq.mpr c4
   have c4b1 : (a0.toList != ([] : List UInt8)) = false := bne_eq_false_iff_eq.mpr c4
   clear c4
   obtain rfl := Option.some.inj H
   go_enter Tryd.func112, Tryd.ntmps112
   go_wp2
   repeat (go_quiet (fail); try go_wp2)
   go_ret
   exact ⟨hrf, hbl HB.out⟩
  ·
   rw [if_neg c4] at H
   have c4b0 : (a0.toList == ([] : List UInt8)) = false := beq_eq_false_iff_ne.mpr c4
   have c4b1 : (a0.toList != ([] : List UInt8)) = true := bne_iff_ne.mpr c4
   by_cases c5 : a1.toList = ([] : List UInt8)
   ·
    rw [if_pos c5] at H
    have c5b0 : (a1.toList == ([] : List UInt8)) = true := beq_iff_eq.mpr c5
    have c5b1 : (a1.toList != ([] : List UInt8)) = false := bne_eq_false_iff_eq.mpr c5
    clear c5
    obtain rfl := Option.some.inj H
    go_enter Tryd.func112, Tryd.ntmps112
    go_wp2
    repeat (go_quiet (fail); try go_wp2)
    go_ret
    exact ⟨hrf, hbl HB.out⟩
   ·
    rw [if_neg c5] at H
    have c5b0 : (a1.toList == ([] : List UInt8)) = false := beq_eq_false_iff_ne.mpr c5
    have c5b1 : (a1.toList != ([] : List UInt8)) = true := bne_iff_ne.mpr c5
    replace H := Option.bind_eq_some_iff.mp H
    obtain ⟨t176, A60, H⟩ := H
    replace H : ((spec_Identifiers.f k a1).bind fun t179 => (spec_ComparePre.l0 k t176 t179 0)) = some r := H
    have A6 := Aside0.mk A60
    clear A60
    replace H := Option.bind_eq_some_iff.mp H
    obtain ⟨t179, A70, H⟩ := H
    replace H : (spec_ComparePre.l0 k t176 t179 0) = some r := H
    have A7 := Aside0.mk A70
    clear A70
    have H' := Aside0.mk H
    clear H
    go_enter Tryd.func112, Tryd.ntmps112
    go_wp2_with (first | (go_at_call 127; (with_reducible refine (spec_Identifiers.calls k a0 t176 _ A6.out).mono ?_); rintro e w8 ⟨v177, rfl, ho0, hb⟩; have n0_ := Aside0.mk (Kd.R_lower ho0 (below_size (hbl HB.out))); have n1_ := Aside0.mk (below_step (hbl HB.out) hb); clear HB; have HO178 := n0_; have HB := n1_; clear n0_ n1_; (try clear hb); (try clear hb2); (try clear hk); (try clear hi); (try clear ho0)) | (go_at_call 127; (with_reducible refine (spec_Identifiers.calls k a1 t179 _ A7.out).mono ?_); rintro e w9 ⟨v180, rfl, ho0, hb⟩; have n0_ := Aside0.mk (Kd.R_elder' (by (with_reducible repeat (first | apply Kd.R_alloc | apply Kd.R_drewN | apply Kd.R_drew)); exact HO178.out) (Kd.R_base ho0) hb); have n1_ := Aside0.mk (Kd.R_lower (Kd.R_new' ho0 (Kd.R_lt (by (with_reducible repeat (first | apply Kd.R_alloc | apply Kd.R_drewN | apply Kd.R_drew)); exact HO178.out))) (below_size (hbl HB.out))); have n2_ := Aside0.mk (below_step (hbl HB.out) hb); clear HO178; clear HB; have HO178 := n0_; have HO181 := n1_; have HB := n2_; clear n0_ n1_ n2_; (try clear hb); (try clear hb2); (try clear hk); (try clear hi); (try clear ho0)))
    repeat (go_quiet (first | (go_at_call 127; (with_reducible refine (spec_Identifiers.calls k a0 t176 _ A6.out).mono ?_); rintro e w8 ⟨v177, rfl, ho0, hb⟩; have n0_ := Aside0.mk (Kd.R_lower ho0 (below_size (hbl HB.out))); have n1_ := Aside0.mk (below_step (hbl HB.out) hb); clear HB; have HO178 := n0_; have HB := n1_; clear n0_ n1_; (try clear hb); (try clear hb2); (try clear hk); (try clear hi); (try clear ho0)) | (go_at_call 127; (with_reducible refine (spec_Identifiers.calls k a1 t179 _ A7.out).mono ?_); rintro e w9 ⟨v180, rfl, ho0, hb⟩; have n0_ := Aside0.mk (Kd.R_elder' (by (with_reducible repeat (first | apply Kd.R_alloc | apply Kd.R_drewN | apply Kd.R_drew)); exact HO178.out) (Kd.R_base ho0) hb); have n1_ := Aside0.mk (Kd.R_lower (Kd.R_new' ho0 (Kd.R_lt (by (with_reducible repeat (first | apply Kd.R_alloc | apply Kd.R_drewN | apply Kd.R_drew)); exact HO178.out))) (below_size (hbl HB.out))); have n2_ := Aside0.mk (below_step (hbl HB.out) hb); clear HO178; clear HB; have HO178 := n0_; have HO181 := n1_; have HB := n2_; clear n0_ n1_ n2_; (try clear hb); (try clear hb2); (try clear hk); (try clear hi); (try clear ho0))); try go_wp2_with (first | (go_at_call 127; (with_reducible refine (spec_Identifiers.calls k a0 t176 _ A6.out).mono ?_); rintro e w8 ⟨v177, rfl, ho0, hb⟩; have n0_ := Aside0.mk (Kd.R_lower ho0 (below_size (hbl HB.out))); have n1_ := Aside0.mk (below_step (hbl HB.out) hb); clear HB; have HO178 := n0_; have HB := n1_; clear n0_ n1_; (try clear hb); (try clear hb2); (try clear hk); (try clear hi); (try clear ho0)) | (go_at_call 127; (with_reducible refine (spec_Identifiers.calls k a1 t179 _ A7.out).mono ?_); rintro e w9 ⟨v180, rfl, ho0, hb⟩; have n0_ := Aside0.mk (Kd.R_elder' (by (with_reducible repeat (first | apply Kd.R_alloc | apply Kd.R_drewN | apply Kd.R_drew)); exact HO178.out) (Kd.R_base ho0) hb); have n1_ := Aside0.mk (Kd.R_lower (Kd.R_new' ho0 (Kd.R_lt (by (with_reducible repeat (first | apply Kd.R_alloc | apply Kd.R_drewN | apply Kd.R_drew)); exact HO178.out))) (below_size (hbl HB.out))); have n2_ := Aside0.mk (below_step (hbl HB.out) hb); clear HO178; clear HB; have HO178 := n0_; have HO181 := n1_; have HB := n2_; clear n0_ n1_ n2_; (try clear hb); (try clear hb2); (try clear hk); (try clear hi); (try clear ho0))))
    go_loopg [7] k (fun kq v7 w' => ∃ (x7_1 : Int), v7 = .int .i64 x7_1 ∧ Aside0 (spec_ComparePre.l0 kq t176 t179 x7_1 = some r) ∧ Aside0 (kq ≤ k) ∧ Aside0 (Kd.R Kd.string 9 w' w.heap.size (fun k_ => some k_ ≠ (v180 : Value).ownBlock) v177 t176) ∧ Aside0 (Kd.R Kd.string 9 w' w.heap.size (fun k_ => some k_ ≠ (v177 : Value).ownBlock) v180 t179) ∧ Aside0 (Below w.heap.size w w'))
    case atStart => exact ⟨(0), hrf, H', ⟨Nat.le_refl _⟩, ⟨by (with_reducible repeat (first | apply Kd.R_alloc | apply Kd.R_drewN | apply Kd.R_drew)); exact Kd.R_mono HO178.out (fun _ hk => hk.2)⟩, ⟨by (with_reducible repeat (first | apply Kd.R_alloc | apply Kd.R_drewN | apply Kd.R_drew)); exact Kd.R_mono HO181.out (fun _ hk => hk.2)⟩, ⟨hbl HB.out⟩⟩
    case round =>
     clear H'
     try clear c1
     try clear p2
     try clear c3
     try clear c3b0
     try clear c3b1
     try clear c4
     try clear c4b0
     try clear c4b1
     try clear c5
     try clear c5b0
     try clear c5b1
     obtain ⟨x7_1, rfl, HA, HK1, HO_5, HO_6, HB⟩ := hrel
     cases gk with
     | zero => exact absurd HA.out (by simp [spec_ComparePre.l0])
     | succ k1 =>
      have H := HA.out
      clear HA
      simp only [spec_ComparePre.l0] at H
      have HC10 := Aside0.mk H
      clear H
      go_upto_region 9 with (fail)
      repeat (go_quiet (fail); go_upto_region 9 with (fail))
      go_cut [32] (fun v32 wc => ∃ (kq : Nat) (x32_9 : Bool), v32 = .bool x32_9 ∧ Aside0 (spec_ComparePre.j1 kq t176 t179 x7_1 x32_9 = some r) ∧ Aside0 (kq ≤ k1) ∧ Aside0 (Kd.R Kd.string 9 wc w.heap.size (fun k_ => some k_ ≠ (v180 : Value).ownBlock) v177 t176) ∧ Aside0 (Kd.R Kd.string 9 wc w.heap.size (fun k_ => some k_ ≠ (v177 : Value).ownBlock) v180 t179) ∧ Aside0 (Below w.heap.size w wc))
      case first =>
       have H := HC10.out
       clear HC10
       by_cases c11 : x7_1 < (t176.length : Int)
       ·
        rw [if_pos c11] at H
        have c11b0 : decide (x7_1 < (t176.length : Int)) = true := decide_eq_true c11
        clear c11
        (first | rw [c11b0] | (simp only [i64_w, i32_w]; rw [c11b0]) | skip)
        have H' := Aside0.mk H
        clear H
        obtain ⟨Ao12, co12, eo12⟩ := Kd.R_slice HO_5.out
        subst eo12
        obtain ⟨Ao13, co13, eo13⟩ := Kd.R_slice HO_6.out
        subst eo13
        go_wp2
        repeat (go_quiet (fail); try go_wp2)
        go_meet
        case rel => exact ⟨_, (decide (x7_1 < (t179.length : Int))), hrf, H', ⟨by have := HK1.out; first | omega | exact Nat.le_refl _⟩, ⟨by (with_reducible repeat (first | apply Kd.R_alloc | apply Kd.R_drewN | apply Kd.R_drew)); exact HO_5.out⟩, ⟨by (with_reducible repeat (first | apply Kd.R_alloc | apply Kd.R_drewN | apply Kd.R_drew)); exact HO_6.out⟩, ⟨hbl HB.out⟩⟩
       ·
        rw [if_neg c11] at H
        have c11b0 : decide (x7_1 < (t176.length : Int)) = false := decide_eq_false c11
        clear c11
        (first | rw [c11b0] | (simp only [i64_w, i32_w]; rw [c11b0]) | skip)
        have H' := Aside0.mk H
        clear H
        obtain ⟨Ao14, co14, eo14⟩ := Kd.R_slice HO_5.out
        subst eo14
        go_wp2
        repeat (go_quiet (fail); try go_wp2)
        go_meet
        case rel => exact ⟨_, (false), hrf, H', ⟨by have := HK1.out; first | omega | exact Nat.le_refl _⟩, ⟨by (with_reducible repeat (first | apply Kd.R_alloc | apply Kd.R_drewN | apply Kd.R_drew)); exact HO_5.out⟩, ⟨by (with_reducible repeat (first | apply Kd.R_alloc | apply Kd.R_drewN | apply Kd.R_drew)); exact HO_6.out⟩, ⟨hbl HB.out⟩⟩
      case rest =>
       clear HC10
       try clear c1
       try clear p2
       try clear c3
       try clear c3b0
       try clear c3b1
       try clear c4
       try clear c4b0
       try clear c4b1
       try clear c5
       try clear c5b0
       try clear c5b1
       try clear c11
       try clear c11b0
       try clear p2
       obtain ⟨kq, x32_9, rfl, HA, HJ9, HO_5, HO_6, HB⟩ := hcut
       cases kq with
       | zero => exact absurd HA.out (by simp [spec_ComparePre.j1])
       | succ kj9 =>
        have H := HA.out
        clear HA
        simp only [spec_ComparePre.j1] at H
        by_cases c15 : x32_9 = true
        ·
         subst c15
         have H1 : (if 0 ≤ x7_1 then (if x7_1 < (t176.length : Int) then (if x7_1 < (t179.length : Int) then ((spec_ComparePart.f kj9 (rdOf ByteArray.empty t176 x7_1) (rdOf ByteArray.empty t179 x7_1)).bind fun t184 => (if t184 = 0 then (spec_ComparePre.l0 kj9 t176 t179 (wrap64 (x7_1 + 1))) else (some t184))) else (none)) else (none)) else (none)) = some r := by rw [if_pos rfl] at H; exact H
         clear H
         have H := H1
         clear H1
         by_cases c16 : 0 ≤ x7_1
         ·
          rw [if_pos c16] at H
          have c16b0 : decide (0 ≤ x7_1) = true := decide_eq_true c16
          clear c16
          by_cases c17 : x7_1 < (t176.length : Int)
          ·
           rw [if_pos c17] at H
           have c17b0 : decide (x7_1 < (t176.length : Int)) = true := decide_eq_true c17
           clear c17
           by_cases c18 : x7_1 < (t179.length : Int)
           ·
            rw [if_pos c18] at H
            have c18b0 : decide (x7_1 < (t179.length : Int)) = true := decide_eq_true c18
            clear c18
            replace H := Option.bind_eq_some_iff.mp H
            obtain ⟨t184, A190, H⟩ := H
            replace H : (if t184 = 0 then (spec_ComparePre.l0 kj9 t176 t179 (wrap64 (x7_1 + 1))) else (some t184)) = some r := H
            have A19 := Aside0.mk A190
            clear A190
            by_cases c20 : t184 = 0
            ·
             rw [if_pos c20] at H
             have c20b0 : (t184 == 0) = true := beq_iff_eq.mpr c20
             have c20b1 : (t184 != 0) = false := bne_eq_false_iff_eq.mpr c20
             clear c20
             have H' := Aside0.mk H
             clear H
             obtain ⟨Ao21, co21, eo21⟩ := Kd.R_slice HO_5.out
             subst eo21
             have p182 : 0 ≤ (x7_1 : Int) := of_decide_eq_true (by assumption)
             have q182 : x7_1 < (t176.length : Int) := of_decide_eq_true (by assumption)
             obtain ⟨ad182, e182, hx182_0⟩ := Kd.at_string (Kd.R_reads' HO_5.out).2.2 x7_1 p182 q182
             cases e182
             replace p182 := eq_true p182
             replace q182 := eq_true q182
             obtain ⟨Ao22, co22, eo22⟩ := Kd.R_slice HO_6.out
             subst eo22
             have p183 : 0 ≤ (x7_1 : Int) := of_decide_eq_true (by assumption)
             have q183 : x7_1 < (t179.length : Int) := of_decide_eq_true (by assumption)
             obtain ⟨ad183, e183, hx183_0⟩ := Kd.at_string (Kd.R_reads' HO_6.out).2.2 x7_1 p183 q183
             cases e183
             replace p183 := eq_true p183
             replace q183 := eq_true q183
             go_wp2_with (first | (go_at_call 155; (with_reducible refine (spec_ComparePart.calls kj9 (rdOf ByteArray.empty t176 x7_1) (rdOf ByteArray.empty t179 x7_1) t184 _ A19.out).mono ?_); rintro e w' ⟨rfl, ⟨nd, rfl⟩⟩; (try first | exact ⟨rfl, _, World.drewN_drewN _ _ _⟩ | exact ⟨rfl, _, Eq.trans (World.drewN_drewN _ _ _) (congrArg (World.drewN _) (Nat.add_assoc _ _ _))⟩)))
             repeat (go_quiet (first | (go_at_call 155; (with_reducible refine (spec_ComparePart.calls kj9 (rdOf ByteArray.empty t176 x7_1) (rdOf ByteArray.empty t179 x7_1) t184 _ A19.out).mono ?_); rintro e w' ⟨rfl, ⟨nd, rfl⟩⟩; (try first | exact ⟨rfl, _, World.drewN_drewN _ _ _⟩ | exact ⟨rfl, _, Eq.trans (World.drewN_drewN _ _ _) (congrArg (World.drewN _) (Nat.add_assoc _ _ _))⟩))); try go_wp2_with (first | (go_at_call 155; (with_reducible refine (spec_ComparePart.calls kj9 (rdOf ByteArray.empty t176 x7_1) (rdOf ByteArray.empty t179 x7_1) t184 _ A19.out).mono ?_); rintro e w' ⟨rfl, ⟨nd, rfl⟩⟩; (try first | exact ⟨rfl, _, World.drewN_drewN _ _ _⟩ | exact ⟨rfl, _, Eq.trans (World.drewN_drewN _ _ _) (congrArg (World.drewN _) (Nat.add_assoc _ _ _))⟩))))
             go_roundg kj9
             case measure => have := HK1.out; have := HJ9.out; omega
             case rel => exact ⟨(wrap64 (x7_1 + 1)), hrf, H', ⟨by have := HK1.out; have := HJ9.out; omega⟩, ⟨by (with_reducible repeat (first | apply Kd.R_alloc | apply Kd.R_drewN | apply Kd.R_drew)); exact HO_5.out⟩, ⟨by (with_reducible repeat (first | apply Kd.R_alloc | apply Kd.R_drewN | apply Kd.R_drew)); exact HO_6.out⟩, ⟨hbl HB.out⟩⟩
            ·
             rw [if_neg c20] at H
             have c20b0 : (t184 == 0) = false := beq_eq_false_iff_ne.mpr c20
             have c20b1 : (t184 != 0) = true := bne_iff_ne.mpr c20
             obtain rfl := Option.some.inj H
             obtain ⟨Ao23, co23, eo23⟩ := Kd.R_slice HO_5.out
             subst eo23
             have p182 : 0 ≤ (x7_1 : Int) := of_decide_eq_true (by assumption)
             have q182 : x7_1 < (t176.length : Int) := of_decide_eq_true (by assumption)
             obtain ⟨ad182, e182, hx182_0⟩ := Kd.at_string (Kd.R_reads' HO_5.out).2.2 x7_1 p182 q182
             cases e182
             replace p182 := eq_true p182
             replace q182 := eq_true q182
             obtain ⟨Ao24, co24, eo24⟩ := Kd.R_slice HO_6.out
             subst eo24
             have p183 : 0 ≤ (x7_1 : Int) := of_decide_eq_true (by assumption)
             have q183 : x7_1 < (t179.length : Int) := of_decide_eq_true (by assumption)
             obtain ⟨ad183, e183, hx183_0⟩ := Kd.at_string (Kd.R_reads' HO_6.out).2.2 x7_1 p183 q183
             cases e183
             replace p183 := eq_true p183
             replace q183 := eq_true q183
             go_wp2_with (first | (go_at_call 155; (with_reducible refine (spec_ComparePart.calls kj9 (rdOf ByteArray.empty t176 x7_1) (rdOf ByteArray.empty t179 x7_1) t184 _ A19.out).mono ?_); rintro e w' ⟨rfl, ⟨nd, rfl⟩⟩; (try first | exact ⟨rfl, _, World.drewN_drewN _ _ _⟩ | exact ⟨rfl, _, Eq.trans (World.drewN_drewN _ _ _) (congrArg (World.drewN _) (Nat.add_assoc _ _ _))⟩)))
             repeat (go_quiet (first | (go_at_call 155; (with_reducible refine (spec_ComparePart.calls kj9 (rdOf ByteArray.empty t176 x7_1) (rdOf ByteArray.empty t179 x7_1) t184 _ A19.out).mono ?_); rintro e w' ⟨rfl, ⟨nd, rfl⟩⟩; (try first | exact ⟨rfl, _, World.drewN_drewN _ _ _⟩ | exact ⟨rfl, _, Eq.trans (World.drewN_drewN _ _ _) (congrArg (World.drewN _) (Nat.add_assoc _ _ _))⟩))); try go_wp2_with (first | (go_at_call 155; (with_reducible refine (spec_ComparePart.calls kj9 (rdOf ByteArray.empty t176 x7_1) (rdOf ByteArray.empty t179 x7_1) t184 _ A19.out).mono ?_); rintro e w' ⟨rfl, ⟨nd, rfl⟩⟩; (try first | exact ⟨rfl, _, World.drewN_drewN _ _ _⟩ | exact ⟨rfl, _, Eq.trans (World.drewN_drewN _ _ _) (congrArg (World.drewN _) (Nat.add_assoc _ _ _))⟩))))
             go_ret
             exact ⟨hrf, hbl HB.out⟩
           ·
            rw [if_neg c18] at H
            exact absurd H (by simp)
          ·
           rw [if_neg c17] at H
           exact absurd H (by simp)
         ·
          rw [if_neg c16] at H
          exact absurd H (by simp)
        ·
         replace c15 := Bool.eq_false_iff.mpr c15
         subst c15
         have H1 : ((spec_order.f (IntKind.u64.wrap ((t176.length : Int))) (IntKind.u64.wrap ((t179.length : Int)))).bind fun t185 => (some t185)) = some r := by rw [if_neg (show ¬ (false = true) by decide)] at H; exact H
         clear H
         have H := H1
         clear H1
         replace H := Option.bind_eq_some_iff.mp H
         obtain ⟨t185, A250, H⟩ := H
         replace H : (some t185) = some r := H
         have A25 := Aside0.mk A250
         clear A250
         obtain rfl := Option.some.inj H
         obtain ⟨Ao26, co26, eo26⟩ := Kd.R_slice HO_5.out
         subst eo26
         obtain ⟨Ao27, co27, eo27⟩ := Kd.R_slice HO_6.out
         subst eo27
         go_wp2_with (first | (go_at_call 154; (with_reducible refine (spec_order.calls (IntKind.u64.wrap ((t176.length : Int))) (IntKind.u64.wrap ((t179.length : Int))) t185 _ A25.out).mono ?_); rintro e w' ⟨rfl, ⟨nd, rfl⟩⟩; (try first | exact ⟨rfl, _, World.drewN_drewN _ _ _⟩ | exact ⟨rfl, _, Eq.trans (World.drewN_drewN _ _ _) (congrArg (World.drewN _) (Nat.add_assoc _ _ _))⟩)))
         repeat (go_quiet (first | (go_at_call 154; (with_reducible refine (spec_order.calls (IntKind.u64.wrap ((t176.length : Int))) (IntKind.u64.wrap ((t179.length : Int))) t185 _ A25.out).mono ?_); rintro e w' ⟨rfl, ⟨nd, rfl⟩⟩; (try first | exact ⟨rfl, _, World.drewN_drewN _ _ _⟩ | exact ⟨rfl, _, Eq.trans (World.drewN_drewN _ _ _) (congrArg (World.drewN _) (Nat.add_assoc _ _ _))⟩))); try go_wp2_with (first | (go_at_call 154; (with_reducible refine (spec_order.calls (IntKind.u64.wrap ((t176.length : Int))) (IntKind.u64.wrap ((t179.length : Int))) t185 _ A25.out).mono ?_); rintro e w' ⟨rfl, ⟨nd, rfl⟩⟩; (try first | exact ⟨rfl, _, World.drewN_drewN _ _ _⟩ | exact ⟨rfl, _, Eq.trans (World.drewN_drewN _ _ _) (congrArg (World.drewN _) (Nat.add_assoc _ _ _))⟩))))
         go_ret
         exact ⟨hrf, hbl HB.out⟩

/-! ### spec_Compare: function 64 -/
def spec_Compare.f (k : Nat) (a0_0 : Int) (a0_1 : Int) (a0_2 : Int) (a0_3 : ByteArray) (a0_4 : ByteArray) (a1_0 : Int) (a1_1 : Int) (a1_2 : Int) (a1_3 : ByteArray) (a1_4 : ByteArray) : Option (Int) := (Hand.CompareNumbers.f a0_0 a0_1 a0_2 a0_3 a0_4 a1_0 a1_1 a1_2 a1_3 a1_4 3).bind fun t188 => (if t188 = 0 then ((spec_ComparePre.f k a0_3 a1_3).bind fun t189 => (some t189)) else (some t188))
theorem spec_Compare.mono : ∀ a0 a1 a2 a3 a4 a5 a6 a7 a8 a9 k, LeO (spec_Compare.f k a0 a1 a2 a3 a4 a5 a6 a7 a8 a9) (spec_Compare.f (k + 1) a0 a1 a2 a3 a4 a5 a6 a7 a8 a9) := by
 intro a0 a1 a2 a3 a4 a5 a6 a7 a8 a9 k
 unfold spec_Compare.f
 repeat' first
   | (with_reducible exact spec_ComparePre.mono _ _ _)
   | (with_reducible exact LeO.refl _)
   | (with_reducible exact LeO.none _)
   | (with_reducible refine LeO.ite ?_ ?_)
   | (with_reducible refine LeO.bind ?_ (fun _ => ?_))
   | exact spec_ComparePre.mono _ _ _
   | exact LeO.none _
   | refine LeO.ite ?_ ?_
   | refine LeO.bind ?_ (fun _ => ?_)
set_option maxHeartbeats 8000000 in
set_option maxRecDepth 100000 in
theorem spec_Compare.calls (k : Nat) (a0_0 : Int) (a0_1 : Int) (a0_2 : Int) (a0_3 : ByteArray) (a0_4 : ByteArray) (a1_0 : Int) (a1_1 : Int) (a1_2 : Int) (a1_3 : ByteArray) (a1_4 : ByteArray) (r : Int) (w : World) (h : spec_Compare.f k a0_0 a0_1 a0_2 a0_3 a0_4 a1_0 a1_1 a1_2 a1_3 a1_4 = some r) :
  Calls Tryd.prog 64 #[.agg #[.int .u64 a0_0, .int .u64 a0_1, .int .u64 a0_2, .string a0_3, .string a0_4], .agg #[.int .u64 a1_0, .int .u64 a1_1, .int .u64 a1_2, .string a1_3, .string a1_4]] w fun e w' => e = .returned (.int .i64 r) ∧ Below w.heap.size w w' := by
 have hu29 := Tryd.underlying29
 have HB := Aside0.mk (Below.refl w.heap.size w)
 have H : ((Hand.CompareNumbers.f a0_0 a0_1 a0_2 a0_3 a0_4 a1_0 a1_1 a1_2 a1_3 a1_4 3).bind fun t188 => (if t188 = 0 then ((spec_ComparePre.f k a0_3 a1_3).bind fun t189 => (some t189)) else (some t188))) = some r := h
 clear h
 replace H := Option.bind_eq_some_iff.mp H
 obtain ⟨t188, A30, H⟩ := H
 replace H : (if t188 = 0 then ((spec_ComparePre.f k a0_3 a1_3).bind fun t189 => (some t189)) else (some t188)) = some r := H
 have A3 := Aside0.mk A30
 clear A30
 by_cases c4 : t188 = 0
 ·
  rw [if_pos c4] at H
  have c4b0 : (t188 == 0) = true := beq_iff_eq.mpr c4
  have c4b1 : (t188 != 0) = false := bne_eq_false_iff_eq.mpr c4
  clear c4
  replace H := Option.bind_eq_some_iff.mp H
  obtain ⟨t189, A50, H⟩ := H
  replace H : (some t189) = some r := H
  have A5 := Aside0.mk A50
  clear A50
  obtain rfl := Option.some.inj H
  go_enter Tryd.func64, Tryd.ntmps64
  go_wp2_with (first | ((with_reducible refine gate_dst (N := 2) rfl ?_); refine box_event ?hg (N := 2) ?hd (cs := #[.int .u64 a0_0, .int .u64 a0_1, .int .u64 a0_2, .string a0_3, .string a0_4]) (t := 29) ?hr ?_; (case hd => rfl); (case hg => rfl); (case hr => first | (go_simp; done) | (go_simp; rfl)); intro gb186 hg w6 hbox hb; have n0_ := Aside0.mk (below_step (hbl HB.out) hb); have n1_ := Aside0.mk (hbox); have n2_ := Aside0.mk ((by rw [hg]; exact (below_size (hbl HB.out)) : w.heap.size ≤ gb186)); have n3_ := Aside0.mk ((by rw [hg]; exact (below_size (hbl HB.out)) : w.heap.size ≤ gb186)); clear HB; have HB := n0_; have BK186 := n1_; have GW186 := n2_; have GE186 := n3_; clear n0_ n1_ n2_ n3_; clear hb hbox hg) | ((with_reducible refine gate_dst (N := 3) rfl ?_); refine box_event ?hg (N := 3) ?hd (cs := #[.int .u64 a1_0, .int .u64 a1_1, .int .u64 a1_2, .string a1_3, .string a1_4]) (t := 29) ?hr ?_; (case hd => rfl); (case hg => rfl); (case hr => first | (go_simp; done) | (go_simp; rfl)); intro gb187 hg w7 hbox hb; have n0_ := Aside0.mk (blk_below (hbk BK186.out) hb); have n1_ := Aside0.mk (below_step (hbl HB.out) hb); have n2_ := Aside0.mk (hbox); have n3_ := Aside0.mk ((by rw [hg]; exact (below_size (hbl HB.out)) : w.heap.size ≤ gb187)); have n4_ := Aside0.mk ((by rw [hg]; exact (below_size (hbl HB.out)) : w.heap.size ≤ gb187)); have n5_ := Aside0.mk ((by rw [hg]; exact Nat.ne_of_lt (blk_lt (hbk BK186.out)) : gb186 ≠ gb187)); have n6_ := Aside0.mk ((by rw [hg]; exact Nat.ne_of_gt (blk_lt (hbk BK186.out)) : gb187 ≠ gb186)); clear BK186; clear HB; have BK186 := n0_; have HB := n1_; have BK187 := n2_; have GW187 := n3_; have GE187 := n4_; have NB186_187 := n5_; have NB187_186 := n6_; clear n0_ n1_ n2_ n3_ n4_ n5_ n6_; clear hb hbox hg; have hnb8 := NB186_187.out; have hnc8 := NB187_186.out; have hcz9_0 : w7.cell? ⟨gb186, 0, none⟩ = some (.int .u64 a0_0) := (blk_cell BK186.out 0).trans rfl; have hcz9_1 : w7.cell? ⟨gb186, 1, none⟩ = some (.int .u64 a0_1) := (blk_cell BK186.out 1).trans rfl; have hcz9_2 : w7.cell? ⟨gb186, 2, none⟩ = some (.int .u64 a0_2) := (blk_cell BK186.out 2).trans rfl; have hcz9_3 : w7.cell? ⟨gb186, 3, none⟩ = some (.string a0_3) := (blk_cell BK186.out 3).trans rfl; have hcz9_4 : w7.cell? ⟨gb186, 4, none⟩ = some (.string a0_4) := (blk_cell BK186.out 4).trans rfl; have hfz9_0 := blk_frozen BK186.out 0; have hfz9_1 := blk_frozen BK186.out 1; have hfz9_2 := blk_frozen BK186.out 2; have hfz9_3 := blk_frozen BK186.out 3; have hfz9_4 := blk_frozen BK186.out 4; have hcz10_0 : w7.cell? ⟨gb187, 0, none⟩ = some (.int .u64 a1_0) := (blk_cell BK187.out 0).trans rfl; have hcz10_1 : w7.cell? ⟨gb187, 1, none⟩ = some (.int .u64 a1_1) := (blk_cell BK187.out 1).trans rfl; have hcz10_2 : w7.cell? ⟨gb187, 2, none⟩ = some (.int .u64 a1_2) := (blk_cell BK187.out 2).trans rfl; have hcz10_3 : w7.cell? ⟨gb187, 3, none⟩ = some (.string a1_3) := (blk_cell BK187.out 3).trans rfl; have hcz10_4 : w7.cell? ⟨gb187, 4, none⟩ = some (.string a1_4) := (blk_cell BK187.out 4).trans rfl; have hfz10_0 := blk_frozen BK187.out 0; have hfz10_1 := blk_frozen BK187.out 1; have hfz10_2 := blk_frozen BK187.out 2; have hfz10_3 := blk_frozen BK187.out 3; have hfz10_4 := blk_frozen BK187.out 4) | ((with_reducible refine gate_callee (f := 111) rfl ?_); refine goesL_ (some 8) rfl rfl Tryd.func111 (by kernel_rfl) rfl #[.agg #[.int .u64 a0_0, .int .u64 a0_1, .int .u64 a0_2, .string a0_3, .string a0_4], .agg #[.int .u64 a1_0, .int .u64 a1_1, .int .u64 a1_2, .string a1_3, .string a1_4], .int .i64 3] rfl (by (try simp only [List.map_toArray, List.map_cons, List.map_nil]); first | done | rfl | (simp only [List.length_drop, List.length_take]; rfl)) ?_; (with_reducible refine (Hand.CompareNumbers.calls a0_0 a0_1 a0_2 a0_3 a0_4 a1_0 a1_1 a1_2 a1_3 a1_4 3 t188 _ A3.out).mono ?_); rintro e w11 ⟨rfl, hb⟩; refine ⟨_, rfl, ?_⟩; have n0_ := Aside0.mk (blk_below (hbk BK186.out) hb); have n1_ := Aside0.mk (blk_below (hbk BK187.out) hb); have n2_ := Aside0.mk (below_step (hbl HB.out) hb); clear BK186; clear BK187; clear HB; have BK186 := n0_; have BK187 := n1_; have HB := n2_; clear n0_ n1_ n2_; (try clear hb); (try clear hb2); (try clear hk); (try clear hi); have hcz12_0 : w11.cell? ⟨gb186, 0, none⟩ = some (.int .u64 a0_0) := (blk_cell BK186.out 0).trans rfl; have hcz12_1 : w11.cell? ⟨gb186, 1, none⟩ = some (.int .u64 a0_1) := (blk_cell BK186.out 1).trans rfl; have hcz12_2 : w11.cell? ⟨gb186, 2, none⟩ = some (.int .u64 a0_2) := (blk_cell BK186.out 2).trans rfl; have hcz12_3 : w11.cell? ⟨gb186, 3, none⟩ = some (.string a0_3) := (blk_cell BK186.out 3).trans rfl; have hcz12_4 : w11.cell? ⟨gb186, 4, none⟩ = some (.string a0_4) := (blk_cell BK186.out 4).trans rfl; have hfz12_0 := blk_frozen BK186.out 0; have hfz12_1 := blk_frozen BK186.out 1; have hfz12_2 := blk_frozen BK186.out 2; have hfz12_3 := blk_frozen BK186.out 3; have hfz12_4 := blk_frozen BK186.out 4; have hcz13_0 : w11.cell? ⟨gb187, 0, none⟩ = some (.int .u64 a1_0) := (blk_cell BK187.out 0).trans rfl; have hcz13_1 : w11.cell? ⟨gb187, 1, none⟩ = some (.int .u64 a1_1) := (blk_cell BK187.out 1).trans rfl; have hcz13_2 : w11.cell? ⟨gb187, 2, none⟩ = some (.int .u64 a1_2) := (blk_cell BK187.out 2).trans rfl; have hcz13_3 : w11.cell? ⟨gb187, 3, none⟩ = some (.string a1_3) := (blk_cell BK187.out 3).trans rfl; have hcz13_4 : w11.cell? ⟨gb187, 4, none⟩ = some (.string a1_4) := (blk_cell BK187.out 4).trans rfl; have hfz13_0 := blk_frozen BK187.out 0; have hfz13_1 := blk_frozen BK187.out 1; have hfz13_2 := blk_frozen BK187.out 2; have hfz13_3 := blk_frozen BK187.out 3; have hfz13_4 := blk_frozen BK187.out 4) | ((with_reducible refine gate_callee (f := 112) rfl ?_); refine goesL_ (some 16) rfl rfl Tryd.func112 (by kernel_rfl) rfl #[.string a0_3, .string a1_3] rfl (by (try simp only [List.map_toArray, List.map_cons, List.map_nil]); first | done | rfl | (simp only [List.length_drop, List.length_take]; rfl)) ?_; (with_reducible refine (spec_ComparePre.calls k a0_3 a1_3 t189 _ A5.out).mono ?_); rintro e w14 ⟨rfl, hb⟩; refine ⟨_, rfl, ?_⟩; have n0_ := Aside0.mk (blk_below (hbk BK186.out) hb); have n1_ := Aside0.mk (blk_below (hbk BK187.out) hb); have n2_ := Aside0.mk (below_step (hbl HB.out) hb); clear BK186; clear BK187; clear HB; have BK186 := n0_; have BK187 := n1_; have HB := n2_; clear n0_ n1_ n2_; (try clear hb); (try clear hb2); (try clear hk); (try clear hi)))
  go_ret
  exact ⟨hrf, hbl HB.out⟩
 ·
  rw [if_neg c4] at H
  have c4b0 : (t188 == 0) = false := beq_eq_false_iff_ne.mpr c4
  have c4b1 : (t188 != 0) = true := bne_iff_ne.mpr c4
  obtain rfl := Option.some.inj H
  go_enter Tryd.func64, Tryd.ntmps64
  go_wp2_with (first | ((with_reducible refine gate_dst (N := 2) rfl ?_); refine box_event ?hg (N := 2) ?hd (cs := #[.int .u64 a0_0, .int .u64 a0_1, .int .u64 a0_2, .string a0_3, .string a0_4]) (t := 29) ?hr ?_; (case hd => rfl); (case hg => rfl); (case hr => first | (go_simp; done) | (go_simp; rfl)); intro gb186 hg w15 hbox hb; have n0_ := Aside0.mk (below_step (hbl HB.out) hb); have n1_ := Aside0.mk (hbox); have n2_ := Aside0.mk ((by rw [hg]; exact (below_size (hbl HB.out)) : w.heap.size ≤ gb186)); have n3_ := Aside0.mk ((by rw [hg]; exact (below_size (hbl HB.out)) : w.heap.size ≤ gb186)); clear HB; have HB := n0_; have BK186 := n1_; have GW186 := n2_; have GE186 := n3_; clear n0_ n1_ n2_ n3_; clear hb hbox hg) | ((with_reducible refine gate_dst (N := 3) rfl ?_); refine box_event ?hg (N := 3) ?hd (cs := #[.int .u64 a1_0, .int .u64 a1_1, .int .u64 a1_2, .string a1_3, .string a1_4]) (t := 29) ?hr ?_; (case hd => rfl); (case hg => rfl); (case hr => first | (go_simp; done) | (go_simp; rfl)); intro gb187 hg w16 hbox hb; have n0_ := Aside0.mk (blk_below (hbk BK186.out) hb); have n1_ := Aside0.mk (below_step (hbl HB.out) hb); have n2_ := Aside0.mk (hbox); have n3_ := Aside0.mk ((by rw [hg]; exact (below_size (hbl HB.out)) : w.heap.size ≤ gb187)); have n4_ := Aside0.mk ((by rw [hg]; exact (below_size (hbl HB.out)) : w.heap.size ≤ gb187)); have n5_ := Aside0.mk ((by rw [hg]; exact Nat.ne_of_lt (blk_lt (hbk BK186.out)) : gb186 ≠ gb187)); have n6_ := Aside0.mk ((by rw [hg]; exact Nat.ne_of_gt (blk_lt (hbk BK186.out)) : gb187 ≠ gb186)); clear BK186; clear HB; have BK186 := n0_; have HB := n1_; have BK187 := n2_; have GW187 := n3_; have GE187 := n4_; have NB186_187 := n5_; have NB187_186 := n6_; clear n0_ n1_ n2_ n3_ n4_ n5_ n6_; clear hb hbox hg; have hnb17 := NB186_187.out; have hnc17 := NB187_186.out; have hcz18_0 : w16.cell? ⟨gb186, 0, none⟩ = some (.int .u64 a0_0) := (blk_cell BK186.out 0).trans rfl; have hcz18_1 : w16.cell? ⟨gb186, 1, none⟩ = some (.int .u64 a0_1) := (blk_cell BK186.out 1).trans rfl; have hcz18_2 : w16.cell? ⟨gb186, 2, none⟩ = some (.int .u64 a0_2) := (blk_cell BK186.out 2).trans rfl; have hcz18_3 : w16.cell? ⟨gb186, 3, none⟩ = some (.string a0_3) := (blk_cell BK186.out 3).trans rfl; have hcz18_4 : w16.cell? ⟨gb186, 4, none⟩ = some (.string a0_4) := (blk_cell BK186.out 4).trans rfl; have hfz18_0 := blk_frozen BK186.out 0; have hfz18_1 := blk_frozen BK186.out 1; have hfz18_2 := blk_frozen BK186.out 2; have hfz18_3 := blk_frozen BK186.out 3; have hfz18_4 := blk_frozen BK186.out 4; have hcz19_0 : w16.cell? ⟨gb187, 0, none⟩ = some (.int .u64 a1_0) := (blk_cell BK187.out 0).trans rfl; have hcz19_1 : w16.cell? ⟨gb187, 1, none⟩ = some (.int .u64 a1_1) := (blk_cell BK187.out 1).trans rfl; have hcz19_2 : w16.cell? ⟨gb187, 2, none⟩ = some (.int .u64 a1_2) := (blk_cell BK187.out 2).trans rfl; have hcz19_3 : w16.cell? ⟨gb187, 3, none⟩ = some (.string a1_3) := (blk_cell BK187.out 3).trans rfl; have hcz19_4 : w16.cell? ⟨gb187, 4, none⟩ = some (.string a1_4) := (blk_cell BK187.out 4).trans rfl; have hfz19_0 := blk_frozen BK187.out 0; have hfz19_1 := blk_frozen BK187.out 1; have hfz19_2 := blk_frozen BK187.out 2; have hfz19_3 := blk_frozen BK187.out 3; have hfz19_4 := blk_frozen BK187.out 4) | ((with_reducible refine gate_callee (f := 111) rfl ?_); refine goesL_ (some 8) rfl rfl Tryd.func111 (by kernel_rfl) rfl #[.agg #[.int .u64 a0_0, .int .u64 a0_1, .int .u64 a0_2, .string a0_3, .string a0_4], .agg #[.int .u64 a1_0, .int .u64 a1_1, .int .u64 a1_2, .string a1_3, .string a1_4], .int .i64 3] rfl (by (try simp only [List.map_toArray, List.map_cons, List.map_nil]); first | done | rfl | (simp only [List.length_drop, List.length_take]; rfl)) ?_; (with_reducible refine (Hand.CompareNumbers.calls a0_0 a0_1 a0_2 a0_3 a0_4 a1_0 a1_1 a1_2 a1_3 a1_4 3 t188 _ A3.out).mono ?_); rintro e w20 ⟨rfl, hb⟩; refine ⟨_, rfl, ?_⟩; have n0_ := Aside0.mk (blk_below (hbk BK186.out) hb); have n1_ := Aside0.mk (blk_below (hbk BK187.out) hb); have n2_ := Aside0.mk (below_step (hbl HB.out) hb); clear BK186; clear BK187; clear HB; have BK186 := n0_; have BK187 := n1_; have HB := n2_; clear n0_ n1_ n2_; (try clear hb); (try clear hb2); (try clear hk); (try clear hi)))
  go_ret
  exact ⟨hrf, hbl HB.out⟩

/-! ### spec_Least: function 66 -/
def spec_Least.f (a0_0 : Int) (a0_1 : Int) (a0_2 : Int) (a0_3 : Int) (a0_4 : Int) (a0_5 : ByteArray) : Option (Int × Int × Int × ByteArray × ByteArray) := some (a0_2, a0_3, a0_4, a0_5, (⟨#[]⟩ : ByteArray))
set_option maxHeartbeats 8000000 in
set_option maxRecDepth 100000 in
theorem spec_Least.calls (a0_0 : Int) (a0_1 : Int) (a0_2 : Int) (a0_3 : Int) (a0_4 : Int) (a0_5 : ByteArray) (r1 : Int) (r2 : Int) (r3 : Int) (r4 : ByteArray) (r5 : ByteArray) (w : World) (h : spec_Least.f a0_0 a0_1 a0_2 a0_3 a0_4 a0_5 = some (r1, r2, r3, r4, r5)) :
  Calls Tryd.prog 66 #[.agg #[.int .i64 a0_0, .int .i64 a0_1, .int .u64 a0_2, .int .u64 a0_3, .int .u64 a0_4, .string a0_5]] w fun e w' => e = .returned (.agg #[.int .u64 r1, .int .u64 r2, .int .u64 r3, .string r4, .string r5]) ∧ Below w.heap.size w w' := by
 have hu42 := Tryd.underlying42
 have hu29 := Tryd.underlying29
 have HB := Aside0.mk (Below.refl w.heap.size w)
 have H : (some (a0_2, a0_3, a0_4, a0_5, (⟨#[]⟩ : ByteArray))) = some (r1, r2, r3, r4, r5) := h
 clear h
 simp only [Option.some.injEq, Prod.mk.injEq] at H
 obtain ⟨rfl, rfl, rfl, rfl, rfl⟩ := H
 go_enter Tryd.func66, Tryd.ntmps66
 go_wp2_with (first | ((with_reducible refine gate_dst (N := 1) rfl ?_); refine box_event ?hg (N := 1) ?hd (cs := #[.int .i64 a0_0, .int .i64 a0_1, .int .u64 a0_2, .int .u64 a0_3, .int .u64 a0_4, .string a0_5]) (t := 42) ?hr ?_; (case hd => rfl); (case hg => rfl); (case hr => first | (go_simp; done) | (go_simp; rfl)); intro gb190 hg w2 hbox hb; have n0_ := Aside0.mk (below_step (hbl HB.out) hb); have n1_ := Aside0.mk (hbox); have n2_ := Aside0.mk ((by rw [hg]; exact (below_size (hbl HB.out)) : w.heap.size ≤ gb190)); have n3_ := Aside0.mk ((by rw [hg]; exact (below_size (hbl HB.out)) : w.heap.size ≤ gb190)); clear HB; have HB := n0_; have BK190 := n1_; have GW190 := n2_; have GE190 := n3_; clear n0_ n1_ n2_ n3_; clear hb hbox hg) | ((with_reducible refine gate_dst (N := 2) rfl ?_); refine box_event ?hg (N := 2) ?hd (cs := #[.int .u64 0, .int .u64 0, .int .u64 0, .string (⟨#[]⟩ : ByteArray), .string (⟨#[]⟩ : ByteArray)]) (t := 29) ?hr ?_; (case hd => rfl); (case hg => rfl); (case hr => first | (go_simp; done) | (go_simp; rfl)); intro gb191 hg w3 hbox hb; have n0_ := Aside0.mk (blk_below (hbk BK190.out) hb); have n1_ := Aside0.mk (below_step (hbl HB.out) hb); have n2_ := Aside0.mk (hbox); have n3_ := Aside0.mk ((by rw [hg]; exact (below_size (hbl HB.out)) : w.heap.size ≤ gb191)); have n4_ := Aside0.mk ((by rw [hg]; exact (below_size (hbl HB.out)) : w.heap.size ≤ gb191)); have n5_ := Aside0.mk ((by rw [hg]; exact Nat.ne_of_lt (blk_lt (hbk BK190.out)) : gb190 ≠ gb191)); have n6_ := Aside0.mk ((by rw [hg]; exact Nat.ne_of_gt (blk_lt (hbk BK190.out)) : gb191 ≠ gb190)); clear BK190; clear HB; have BK190 := n0_; have HB := n1_; have BK191 := n2_; have GW191 := n3_; have GE191 := n4_; have NB190_191 := n5_; have NB191_190 := n6_; clear n0_ n1_ n2_ n3_ n4_ n5_ n6_; clear hb hbox hg; have hnb4 := NB190_191.out; have hnc4 := NB191_190.out; have hcz5_0 : w3.cell? ⟨gb190, 0, none⟩ = some (.int .i64 a0_0) := (blk_cell BK190.out 0).trans rfl; have hcz5_1 : w3.cell? ⟨gb190, 1, none⟩ = some (.int .i64 a0_1) := (blk_cell BK190.out 1).trans rfl; have hcz5_2 : w3.cell? ⟨gb190, 2, none⟩ = some (.int .u64 a0_2) := (blk_cell BK190.out 2).trans rfl; have hcz5_3 : w3.cell? ⟨gb190, 3, none⟩ = some (.int .u64 a0_3) := (blk_cell BK190.out 3).trans rfl; have hcz5_4 : w3.cell? ⟨gb190, 4, none⟩ = some (.int .u64 a0_4) := (blk_cell BK190.out 4).trans rfl; have hcz5_5 : w3.cell? ⟨gb190, 5, none⟩ = some (.string a0_5) := (blk_cell BK190.out 5).trans rfl; have hfz5_0 := blk_frozen BK190.out 0; have hfz5_1 := blk_frozen BK190.out 1; have hfz5_2 := blk_frozen BK190.out 2; have hfz5_3 := blk_frozen BK190.out 3; have hfz5_4 := blk_frozen BK190.out 4; have hfz5_5 := blk_frozen BK190.out 5; have hcz6_0 : w3.cell? ⟨gb191, 0, none⟩ = some (.int .u64 0) := (blk_cell BK191.out 0).trans rfl; have hcz6_1 : w3.cell? ⟨gb191, 1, none⟩ = some (.int .u64 0) := (blk_cell BK191.out 1).trans rfl; have hcz6_2 : w3.cell? ⟨gb191, 2, none⟩ = some (.int .u64 0) := (blk_cell BK191.out 2).trans rfl; have hcz6_3 : w3.cell? ⟨gb191, 3, none⟩ = some (.string (⟨#[]⟩ : ByteArray)) := (blk_cell BK191.out 3).trans rfl; have hcz6_4 : w3.cell? ⟨gb191, 4, none⟩ = some (.string (⟨#[]⟩ : ByteArray)) := (blk_cell BK191.out 4).trans rfl; have hfz6_0 := blk_frozen BK191.out 0; have hfz6_1 := blk_frozen BK191.out 1; have hfz6_2 := blk_frozen BK191.out 2; have hfz6_3 := blk_frozen BK191.out 3; have hfz6_4 := blk_frozen BK191.out 4))
 refine bodyPost_ret (results_cell_row rfl _ _ gb191 29 #[.int .u64 a0_2, .int .u64 a0_3, .int .u64 a0_4, .string a0_5, .string (⟨#[]⟩ : ByteArray)] (0, 0) _ rfl (by (with_reducible repeat (first | refine blk_drewN ?_ _ | refine blk_drew ?_ | refine blk_alloc ?_ _)); refine blk_put (cs := #[.int .u64 a0_2, .int .u64 a0_3, .int .u64 a0_4, .string a0_5, .string (⟨#[]⟩ : ByteArray)]) ?_ 4 _ rfl; (with_reducible repeat (first | refine blk_drewN ?_ _ | refine blk_drew ?_ | refine blk_alloc ?_ _)); refine blk_put (cs := #[.int .u64 a0_2, .int .u64 a0_3, .int .u64 a0_4, .string (⟨#[]⟩ : ByteArray), .string (⟨#[]⟩ : ByteArray)]) ?_ 3 _ rfl; (with_reducible repeat (first | refine blk_drewN ?_ _ | refine blk_drew ?_ | refine blk_alloc ?_ _)); refine blk_put (cs := #[.int .u64 a0_2, .int .u64 a0_3, .int .u64 0, .string (⟨#[]⟩ : ByteArray), .string (⟨#[]⟩ : ByteArray)]) ?_ 2 _ rfl; (with_reducible repeat (first | refine blk_drewN ?_ _ | refine blk_drew ?_ | refine blk_alloc ?_ _)); refine blk_put (cs := #[.int .u64 a0_2, .int .u64 0, .int .u64 0, .string (⟨#[]⟩ : ByteArray), .string (⟨#[]⟩ : ByteArray)]) ?_ 1 _ rfl; (with_reducible repeat (first | refine blk_drewN ?_ _ | refine blk_drew ?_ | refine blk_alloc ?_ _)); refine blk_put (cs := #[.int .u64 0, .int .u64 0, .int .u64 0, .string (⟨#[]⟩ : ByteArray), .string (⟨#[]⟩ : ByteArray)]) ?_ 0 _ rfl; (with_reducible repeat (first | refine blk_drewN ?_ _ | refine blk_drew ?_ | refine blk_alloc ?_ _)); exact BK191.out) Tryd.underlying29 rfl (by kernel_rfl)) rfl ?_
 exact ⟨hrf, hbl HB.out⟩

/-! ### spec_tildeNumbers: function 146 -/
def spec_tildeNumbers.f (a0_0 : Int) (a0_1 : Int) (a0_2 : Int) (a0_3 : Int) (a0_4 : Int) (a0_5 : ByteArray) : Option (Int) := some (mn 2 a0_1)
set_option maxHeartbeats 8000000 in
set_option maxRecDepth 100000 in
theorem spec_tildeNumbers.calls (a0_0 : Int) (a0_1 : Int) (a0_2 : Int) (a0_3 : Int) (a0_4 : Int) (a0_5 : ByteArray) (r : Int) (w : World) (h : spec_tildeNumbers.f a0_0 a0_1 a0_2 a0_3 a0_4 a0_5 = some r) :
  Calls Tryd.prog 146 #[.agg #[.int .i64 a0_0, .int .i64 a0_1, .int .u64 a0_2, .int .u64 a0_3, .int .u64 a0_4, .string a0_5]] w fun e w' => e = .returned (.int .i64 r) ∧ Below w.heap.size w w' := by
 have hu42 := Tryd.underlying42
 have HB := Aside0.mk (Below.refl w.heap.size w)
 have H : (some (mn 2 a0_1)) = some r := h
 clear h
 obtain ⟨ji2, hji2⟩ : ∃ j_ : Int, (mn 2 a0_1) = j_ := ⟨_, rfl⟩
 replace H : (some ji2) = some r := by first | (rw [hji2] at H; exact H) | (simp only [hji2] at H ⊢; exact H)
 (try (have hji2h : ji2 ≤ 2 := by (rw [← hji2]; unfold mn; (repeat' split) <;> omega)))
 (try (have hji2g : ji2 ≤ 64 := by omega))
 have hji2_ : (if a0_1 < 2 then a0_1 else 2) = ji2 := hji2
 obtain rfl := Option.some.inj H
 go_enter Tryd.func146, Tryd.ntmps146
 go_wp2_with (first | ((with_reducible refine gate_dst (N := 1) rfl ?_); refine box_event ?hg (N := 1) ?hd (cs := #[.int .i64 a0_0, .int .i64 a0_1, .int .u64 a0_2, .int .u64 a0_3, .int .u64 a0_4, .string a0_5]) (t := 42) ?hr ?_; (case hd => rfl); (case hg => rfl); (case hr => first | (go_simp; done) | (go_simp; rfl)); intro gb192 hg w3 hbox hb; have n0_ := Aside0.mk (below_step (hbl HB.out) hb); have n1_ := Aside0.mk (hbox); have n2_ := Aside0.mk ((by rw [hg]; exact (below_size (hbl HB.out)) : w.heap.size ≤ gb192)); have n3_ := Aside0.mk ((by rw [hg]; exact (below_size (hbl HB.out)) : w.heap.size ≤ gb192)); clear HB; have HB := n0_; have BK192 := n1_; have GW192 := n2_; have GE192 := n3_; clear n0_ n1_ n2_ n3_; clear hb hbox hg; have hcz4_0 : w3.cell? ⟨gb192, 0, none⟩ = some (.int .i64 a0_0) := (blk_cell BK192.out 0).trans rfl; have hcz4_1 : w3.cell? ⟨gb192, 1, none⟩ = some (.int .i64 a0_1) := (blk_cell BK192.out 1).trans rfl; have hcz4_2 : w3.cell? ⟨gb192, 2, none⟩ = some (.int .u64 a0_2) := (blk_cell BK192.out 2).trans rfl; have hcz4_3 : w3.cell? ⟨gb192, 3, none⟩ = some (.int .u64 a0_3) := (blk_cell BK192.out 3).trans rfl; have hcz4_4 : w3.cell? ⟨gb192, 4, none⟩ = some (.int .u64 a0_4) := (blk_cell BK192.out 4).trans rfl; have hcz4_5 : w3.cell? ⟨gb192, 5, none⟩ = some (.string a0_5) := (blk_cell BK192.out 5).trans rfl; have hfz4_0 := blk_frozen BK192.out 0; have hfz4_1 := blk_frozen BK192.out 1; have hfz4_2 := blk_frozen BK192.out 2; have hfz4_3 := blk_frozen BK192.out 3; have hfz4_4 := blk_frozen BK192.out 4; have hfz4_5 := blk_frozen BK192.out 5))
 go_ret
 exact ⟨by first | rfl | (simp [errW_none, errW_some] <;> rfl) | (simp only [← hji2]; first | rfl | (simp [errW_none, errW_some] <;> rfl)) | (simp [*, errW_none, errW_some] <;> rfl), hbl HB.out⟩

/-! ### spec_caretNumbers: function 147 -/
def spec_caretNumbers.l0 : Nat → List Int → Int → Int → Int → Int → Int → Int → Int → ByteArray → Option (Int)
 | 0, _, _, _, _, _, _, _, _, _ => none
 | k + 1, x11, x12, x13, x194000, x194001, x194002, x194003, x194004, x194005 => if x13 < x12 then (if 0 ≤ x13 then (if x13 < (x11.length : Int) then (if (rd x11 x13) = 0 then (spec_caretNumbers.l0 k x11 x12 (wrap64 (x13 + 1)) x194000 x194001 x194002 x194003 x194004 x194005) else (some (wrap64 (x13 + 1)))) else (none)) else (none)) else (some x194001)
def spec_caretNumbers.f (k : Nat) (a0_0 : Int) (a0_1 : Int) (a0_2 : Int) (a0_3 : Int) (a0_4 : Int) (a0_5 : ByteArray) : Option (Int) := (some (([a0_2, a0_3, a0_4] : List Int) : List Int)).bind fun y194 => (spec_caretNumbers.l0 k y194 (y194.length : Int) 0 a0_0 a0_1 a0_2 a0_3 a0_4 a0_5)
theorem spec_caretNumbers.mono_l : ∀ k, (∀ y0 y1 y2 y3 y4 y5 y6 y7 y8, LeO (spec_caretNumbers.l0 k y0 y1 y2 y3 y4 y5 y6 y7 y8) (spec_caretNumbers.l0 (k + 1) y0 y1 y2 y3 y4 y5 y6 y7 y8))
 | 0 => fun _ _ _ _ _ _ _ _ _ r h => by simp [spec_caretNumbers.l0] at h
 | k + 1 => by
  have ih0 := spec_caretNumbers.mono_l k
  ·
   intro y0 y1 y2 y3 y4 y5 y6 y7 y8
   unfold spec_caretNumbers.l0
   repeat' first
   | (with_reducible exact ih0 _ _ _ _ _ _ _ _ _)
   | (with_reducible exact LeO.refl _)
   | (with_reducible exact LeO.none _)
   | (with_reducible refine LeO.ite ?_ ?_)
   | (with_reducible refine LeO.bind ?_ (fun _ => ?_))
   | exact ih0 _ _ _ _ _ _ _ _ _
   | exact LeO.none _
   | refine LeO.ite ?_ ?_
   | refine LeO.bind ?_ (fun _ => ?_)
theorem spec_caretNumbers.mono : ∀ a0 a1 a2 a3 a4 a5 k, LeO (spec_caretNumbers.f k a0 a1 a2 a3 a4 a5) (spec_caretNumbers.f (k + 1) a0 a1 a2 a3 a4 a5) := by
 intro a0 a1 a2 a3 a4 a5 k
 have ih0 := spec_caretNumbers.mono_l k
 unfold spec_caretNumbers.f
 repeat' first
   | (with_reducible exact ih0 _ _ _ _ _ _ _ _ _)
   | (with_reducible exact LeO.refl _)
   | (with_reducible exact LeO.none _)
   | (with_reducible refine LeO.ite ?_ ?_)
   | (with_reducible refine LeO.bind ?_ (fun _ => ?_))
   | exact ih0 _ _ _ _ _ _ _ _ _
   | exact LeO.none _
   | refine LeO.ite ?_ ?_
   | refine LeO.bind ?_ (fun _ => ?_)
set_option maxHeartbeats 8000000 in
set_option maxRecDepth 100000 in
theorem spec_caretNumbers.calls (k : Nat) (a0_0 : Int) (a0_1 : Int) (a0_2 : Int) (a0_3 : Int) (a0_4 : Int) (a0_5 : ByteArray) (r : Int) (w : World) (h : spec_caretNumbers.f k a0_0 a0_1 a0_2 a0_3 a0_4 a0_5 = some r) :
  Calls Tryd.prog 147 #[.agg #[.int .i64 a0_0, .int .i64 a0_1, .int .u64 a0_2, .int .u64 a0_3, .int .u64 a0_4, .string a0_5]] w fun e w' => e = .returned (.int .i64 r) ∧ Below w.heap.size w w' := by
 have hu42 := Tryd.underlying42
 have HB := Aside0.mk (Below.refl w.heap.size w)
 have H : ((some (([a0_2, a0_3, a0_4] : List Int) : List Int)).bind fun y194 => (spec_caretNumbers.l0 k y194 (y194.length : Int) 0 a0_0 a0_1 a0_2 a0_3 a0_4 a0_5)) = some r := h
 clear h
 obtain ⟨y194, hy194⟩ : ∃ y_ : List Int, y_ = (([a0_2, a0_3, a0_4] : List Int)) := ⟨_, rfl⟩
 replace H : (spec_caretNumbers.l0 k y194 (y194.length : Int) 0 a0_0 a0_1 a0_2 a0_3 a0_4 a0_5) = some r := by first | (rw [hy194]; with_reducible exact H) | (have H2_ := (Option.bind_some _ _).symm.trans H; rw [hy194]; with_reducible exact H2_) | (have H2_ := (Option.bind_some _ _).symm.trans H; with_reducible exact H2_) | with_reducible exact H | (rw [hy194]; exact H) | exact H
 have Ny194 := Aside0.mk hy194
 clear hy194
 have H' := Aside0.mk H
 clear H
 go_enter Tryd.func147, Tryd.ntmps147
 go_wp2_with (first | ((with_reducible refine gate_dst (N := 1) rfl ?_); refine box_event ?hg (N := 1) ?hd (cs := #[.int .i64 a0_0, .int .i64 a0_1, .int .u64 a0_2, .int .u64 a0_3, .int .u64 a0_4, .string a0_5]) (t := 42) ?hr ?_; (case hd => rfl); (case hg => rfl); (case hr => first | (go_simp; done) | (go_simp; rfl)); intro gb193 hg w2 hbox hb; have n0_ := Aside0.mk (below_step (hbl HB.out) hb); have n1_ := Aside0.mk (hbox); have n2_ := Aside0.mk ((by rw [hg]; exact (below_size (hbl HB.out)) : w.heap.size ≤ gb193)); have n3_ := Aside0.mk ((by rw [hg]; exact (below_size (hbl HB.out)) : w.heap.size ≤ gb193)); clear HB; have HB := n0_; have BK193 := n1_; have GW193 := n2_; have GE193 := n3_; clear n0_ n1_ n2_ n3_; clear hb hbox hg; have hcz3_0 : w2.cell? ⟨gb193, 0, none⟩ = some (.int .i64 a0_0) := (blk_cell BK193.out 0).trans rfl; have hcz3_1 : w2.cell? ⟨gb193, 1, none⟩ = some (.int .i64 a0_1) := (blk_cell BK193.out 1).trans rfl; have hcz3_2 : w2.cell? ⟨gb193, 2, none⟩ = some (.int .u64 a0_2) := (blk_cell BK193.out 2).trans rfl; have hcz3_3 : w2.cell? ⟨gb193, 3, none⟩ = some (.int .u64 a0_3) := (blk_cell BK193.out 3).trans rfl; have hcz3_4 : w2.cell? ⟨gb193, 4, none⟩ = some (.int .u64 a0_4) := (blk_cell BK193.out 4).trans rfl; have hcz3_5 : w2.cell? ⟨gb193, 5, none⟩ = some (.string a0_5) := (blk_cell BK193.out 5).trans rfl; have hfz3_0 := blk_frozen BK193.out 0; have hfz3_1 := blk_frozen BK193.out 1; have hfz3_2 := blk_frozen BK193.out 2; have hfz3_3 := blk_frozen BK193.out 3; have hfz3_4 := blk_frozen BK193.out 4; have hfz3_5 := blk_frozen BK193.out 5) | ((with_reducible refine gate_dst (N := 11) rfl ?_); refine Kd.R_lit (Kd.int .u64) _ 27 ?hg (N := 11) ?hd (xs := ([a0_2, a0_3, a0_4] : List Int)) (inner := [.int .u64 a0_2, .int .u64 a0_3, .int .u64 a0_4]) (ok := fun _ => True) (okp := fun _ => True) ?hr ?hp (fun _ hk => hk) trivial (Below.refl _ _) (Nat.le_refl _) (by simp) ?_; (case hd => rfl); (case hg => rfl); (case hr => first | (go_simp; done) | (go_simp; rfl)); (case hp => exact (Reps.one (show Kd.M (Kd.int .u64) _ _ _ a0_2 [.int .u64 a0_2] from rfl) (Reps.one (show Kd.M (Kd.int .u64) _ _ _ a0_3 [.int .u64 a0_3] from rfl) (Reps.one (show Kd.M (Kd.int .u64) _ _ _ a0_4 [.int .u64 a0_4] from rfl) (Reps.none _ _))))); intro v195 w4 ho5 hb hg_ hnew_; clear hg_ hnew_; (first | rw [← Ny194.out] at ho5 | (simp only [Int.reduceToNat] at ho5; rw [← Ny194.out] at ho5)); have n0_ := Aside0.mk (Kd.R_lower ho5 (below_size (hbl HB.out))); have n1_ := Aside0.mk (blk_below (hbk BK193.out) hb); have n2_ := Aside0.mk (below_step (hbl HB.out) hb); clear BK193; clear HB; have HO196 := n0_; have BK193 := n1_; have HB := n2_; clear n0_ n1_ n2_; clear hb ho5; obtain ⟨Ao6, co6, eo6⟩ := Kd.R_slice HO196.out; subst eo6))
 go_loopg [13] k (fun kq v13 w' => ∃ (x13_1 : Int), v13 = .int .i64 x13_1 ∧ Aside0 (spec_caretNumbers.l0 kq y194 (y194.length : Int) x13_1 a0_0 a0_1 a0_2 a0_3 a0_4 a0_5 = some r) ∧ Aside0 (kq ≤ k) ∧ Aside0 (Kd.R (Kd.int .u64) 27 w' w.heap.size (fun _ => True) (.slice Ao6 y194.length co6) y194) ∧ Aside0 (w'.heap[gb193]? = some (.cells #[.int .i64 a0_0, .int .i64 a0_1, .int .u64 a0_2, .int .u64 a0_3, .int .u64 a0_4, .string a0_5] 42 (0, 0))) ∧ Aside0 (Below w.heap.size w w'))
 case atStart => exact ⟨(0), hrf, H', ⟨Nat.le_refl _⟩, ⟨by (with_reducible repeat (first | apply Kd.R_alloc | apply Kd.R_drewN | apply Kd.R_drew)); exact HO196.out⟩, ⟨by (with_reducible repeat (first | refine blk_drewN ?_ _ | refine blk_drew ?_ | refine blk_alloc ?_ _)); exact BK193.out⟩, ⟨hbl HB.out⟩⟩
 case round =>
  clear H'
  try clear c1
  try clear p2
  try clear hcz3_0
  try clear hcz3_1
  try clear hcz3_2
  try clear hcz3_3
  try clear hcz3_4
  try clear hcz3_5
  try clear hfz3_0
  try clear hfz3_1
  try clear hfz3_2
  try clear hfz3_3
  try clear hfz3_4
  try clear hfz3_5
  obtain ⟨x13_1, rfl, HA, HK1, HO_11, BK193, HB⟩ := hrel
  cases gk with
  | zero => exact absurd HA.out (by simp [spec_caretNumbers.l0])
  | succ k1 =>
   have H := HA.out
   clear HA
   simp only [spec_caretNumbers.l0] at H
   by_cases c7 : x13_1 < (y194.length : Int)
   ·
    rw [if_pos c7] at H
    have c7b0 : decide (x13_1 < (y194.length : Int)) = true := decide_eq_true c7
    clear c7
    by_cases c8 : 0 ≤ x13_1
    ·
     rw [if_pos c8] at H
     have c8b0 : decide (0 ≤ x13_1) = true := decide_eq_true c8
     clear c8
     by_cases c9 : x13_1 < (y194.length : Int)
     ·
      rw [if_pos c9] at H
      have c9b0 : decide (x13_1 < (y194.length : Int)) = true := decide_eq_true c9
      clear c9
      by_cases c10 : (rd y194 x13_1) = 0
      ·
       rw [if_pos c10] at H
       have c10b0 : ((rd y194 x13_1) == 0) = true := beq_iff_eq.mpr c10
       have c10b1 : ((rd y194 x13_1) != 0) = false := bne_eq_false_iff_eq.mpr c10
       clear c10
       have H' := Aside0.mk H
       clear H
       have p197 : 0 ≤ (x13_1 : Int) := of_decide_eq_true (by assumption)
       have q197 : x13_1 < (y194.length : Int) := of_decide_eq_true (by assumption)
       obtain ⟨ad197, e197, hx197_0⟩ := Kd.at_int (Kd.R_reads' HO_11.out).2.2 x13_1 p197 q197
       cases e197
       replace p197 := eq_true p197
       replace q197 := eq_true q197
       go_wp2
       go_roundg k1
       case measure => have := HK1.out; omega
       case rel => exact ⟨(wrap64 (x13_1 + 1)), hrf, H', ⟨by have := HK1.out; omega⟩, ⟨by (with_reducible repeat (first | apply Kd.R_alloc | apply Kd.R_drewN | apply Kd.R_drew)); exact HO_11.out⟩, ⟨by (with_reducible repeat (first | refine blk_drewN ?_ _ | refine blk_drew ?_ | refine blk_alloc ?_ _)); exact BK193.out⟩, ⟨hbl HB.out⟩⟩
      ·
       rw [if_neg c10] at H
       have c10b0 : ((rd y194 x13_1) == 0) = false := beq_eq_false_iff_ne.mpr c10
       have c10b1 : ((rd y194 x13_1) != 0) = true := bne_iff_ne.mpr c10
       obtain rfl := Option.some.inj H
       have p197 : 0 ≤ (x13_1 : Int) := of_decide_eq_true (by assumption)
       have q197 : x13_1 < (y194.length : Int) := of_decide_eq_true (by assumption)
       obtain ⟨ad197, e197, hx197_0⟩ := Kd.at_int (Kd.R_reads' HO_11.out).2.2 x13_1 p197 q197
       cases e197
       replace p197 := eq_true p197
       replace q197 := eq_true q197
       go_wp2
       go_ret
       exact ⟨hrf, hbl HB.out⟩
     ·
      rw [if_neg c9] at H
      exact absurd H (by simp)
    ·
     rw [if_neg c8] at H
     exact absurd H (by simp)
   ·
    rw [if_neg c7] at H
    have c7b0 : decide (x13_1 < (y194.length : Int)) = false := decide_eq_false c7
    clear c7
    obtain rfl := Option.some.inj H
    have hcz11_0 : wr.cell? ⟨gb193, 0, none⟩ = some (.int .i64 a0_0) := (blk_cell BK193.out 0).trans rfl
    have hcz11_1 : wr.cell? ⟨gb193, 1, none⟩ = some (.int .i64 a0_1) := (blk_cell BK193.out 1).trans rfl
    have hcz11_2 : wr.cell? ⟨gb193, 2, none⟩ = some (.int .u64 a0_2) := (blk_cell BK193.out 2).trans rfl
    have hcz11_3 : wr.cell? ⟨gb193, 3, none⟩ = some (.int .u64 a0_3) := (blk_cell BK193.out 3).trans rfl
    have hcz11_4 : wr.cell? ⟨gb193, 4, none⟩ = some (.int .u64 a0_4) := (blk_cell BK193.out 4).trans rfl
    have hcz11_5 : wr.cell? ⟨gb193, 5, none⟩ = some (.string a0_5) := (blk_cell BK193.out 5).trans rfl
    have hfz11_0 := blk_frozen BK193.out 0
    have hfz11_1 := blk_frozen BK193.out 1
    have hfz11_2 := blk_frozen BK193.out 2
    have hfz11_3 := blk_frozen BK193.out 3
    have hfz11_4 := blk_frozen BK193.out 4
    have hfz11_5 := blk_frozen BK193.out 5
    go_wp2
    go_ret
    exact ⟨hrf, hbl HB.out⟩

end Go.Proofs.YtalpehfjjidfhaaDoor.MP
