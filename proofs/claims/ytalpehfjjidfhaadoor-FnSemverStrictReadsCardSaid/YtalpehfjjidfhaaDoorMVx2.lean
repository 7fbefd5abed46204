-- Written by a program of this session (wip/tools/myprint.py over the kit's print).
import Derived.Test.YtalpehfjjidfhaaDoorMVx0
import Derived.Test.YtalpehfjjidfhaaDoorMVx1
namespace Go.Proofs.YtalpehfjjidfhaaDoor.MV
open Go.RowKit Go.Proofs.YtalpehfjjidfhaaDoorW.PrintWords Go.Proofs.YtalpehfjjidfhaaDoorW.PrintLast Go.Proofs.YtalpehfjjidfhaaDoorW.PrintMore Go.Proofs.YtalpehfjjidfhaaDoor
attribute [local go_sem] max2_int min2_int max_two min_two max_three min_three max_four min_four   -- for this text's walks alone
set_option linter.unusedVariables false
set_option linter.unusedSimpArgs false

attribute [local go_sem high] eqA29
/-! ### laws_svShort: function 21 -/
def laws_svShort.l0 : Nat → List ByteArray → Int → Int → Option (Bool)
  | 0, _, _, _ => none
  | k + 1, x5, x6, x7 => if x7 < x6 then (if 0 ≤ x7 then (if x7 < (x5.length : Int) then (if ((rdOf ByteArray.empty x5 x7).size : Int) > 65536 then (some false) else (laws_svShort.l0 k x5 x6 (wrap64 (x7 + 1)))) else (none)) else (none)) else (some true)
def laws_svShort.f (k : Nat) (l0 : List ByteArray) : Option (Bool) := laws_svShort.l0 k l0 (l0.length : Int) 0
theorem laws_svShort.mono_l : ∀ k, (∀ y0 y1 y2, LeO (laws_svShort.l0 k y0 y1 y2) (laws_svShort.l0 (k + 1) y0 y1 y2))
  | 0 => fun _ _ _ r h => by simp [laws_svShort.l0] at h
  | k + 1 => by
    have ih0 := laws_svShort.mono_l k
    · intro y0 y1 y2
      unfold laws_svShort.l0
      repeat' first
      | (with_reducible exact ih0 _ _ _)
      | (with_reducible exact LeO.refl _)
      | (with_reducible exact LeO.none _)
      | (with_reducible refine LeO.ite ?_ ?_)
      | (with_reducible refine LeO.bind ?_ (fun _ => ?_))
      | exact ih0 _ _ _
      | exact LeO.none _
      | refine LeO.ite ?_ ?_
      | refine LeO.bind ?_ (fun _ => ?_)
theorem laws_svShort.mono : ∀ a0 k, LeO (laws_svShort.f k a0) (laws_svShort.f (k + 1) a0) := by
  intro a0 k
  have ih0 := laws_svShort.mono_l k
  unfold laws_svShort.f
  repeat' first
      | (with_reducible exact ih0 _ _ _)
      | (with_reducible exact LeO.refl _)
      | (with_reducible exact LeO.none _)
      | (with_reducible refine LeO.ite ?_ ?_)
      | (with_reducible refine LeO.bind ?_ (fun _ => ?_))
      | exact ih0 _ _ _
      | exact LeO.none _
      | refine LeO.ite ?_ ?_
      | refine LeO.bind ?_ (fun _ => ?_)
set_option maxHeartbeats 8000000 in
set_option maxRecDepth 100000 in
theorem laws_svShort.calls (k : Nat) (A0 : Option Addr) (c0 : Nat) (l0 : List ByteArray) (r : Bool) (w : World) (hr0 : Kd.C Kd.string w A0 l0.length l0) (hc0 : l0.length ≤ c0) (h : laws_svShort.f k l0 = some r) :
    Calls Tryd.prog 21 #[.slice A0 l0.length c0] w fun e w' => e = .returned (.bool r) ∧ Drawn0 w w' := by
  have HR0 := Aside0.mk hr0
  have HC0 := Aside0.mk hc0
  clear hr0 hc0
  have H : (laws_svShort.l0 k l0 (l0.length : Int) 0) = some r := h
  clear h
  have H' := Aside0.mk H
  clear H
  go_enter Tryd.func21, Tryd.ntmps21
  go_wp2
  go_loopg [7] k (fun kq v7 w' => ∃ (x7_1 : Int), v7 = .int .i64 x7_1 ∧ Aside0 (laws_svShort.l0 kq l0 (l0.length : Int) x7_1 = some r) ∧ Aside0 (kq ≤ k) ∧ Drawn0 w w')
  case atStart => exact ⟨(0), (by first | rfl | (simp; done) | (simp [*]; done)), H', ⟨Nat.le_refl _⟩, by repeat (first | exact Drawn0.refl _ | apply Drawn0.step)⟩
  case round =>
    clear H'
    obtain ⟨x7_1, rfl, HA, HK1, ⟨m1, rfl⟩⟩ := hrel
    cases gk with
    | zero => exact absurd HA.out (by simp [laws_svShort.l0])
    | succ k1 =>
      have H := HA.out
      clear HA
      simp only [laws_svShort.l0] at H
      by_cases c2 : x7_1 < (l0.length : Int)
      · rw [if_pos c2] at H
        have c2b0 : decide (x7_1 < (l0.length : Int)) = true := decide_eq_true c2
        clear c2
        by_cases c3 : 0 ≤ x7_1
        · rw [if_pos c3] at H
          have c3b0 : decide (0 ≤ x7_1) = true := decide_eq_true c3
          clear c3
          by_cases c4 : x7_1 < (l0.length : Int)
          · rw [if_pos c4] at H
            have c4b0 : decide (x7_1 < (l0.length : Int)) = true := decide_eq_true c4
            clear c4
            by_cases c5 : ((rdOf ByteArray.empty l0 x7_1).size : Int) > 65536
            · rw [if_pos c5] at H
              have c5b0 : decide (65536 < ((rdOf ByteArray.empty l0 x7_1).size : Int)) = true := decide_eq_true c5
              have c5b1 : decide (65536 < (rdOf ByteArray.empty l0 x7_1).size) = true := decide_eq_true (by omega)
              clear c5
              obtain rfl := Option.some.inj H
              have p101 : 0 ≤ (x7_1 : Int) := of_decide_eq_true (by first | (with_reducible assumption) | assumption)
              have q101 : x7_1 < (l0.length : Int) := of_decide_eq_true (by first | (with_reducible assumption) | assumption)
              obtain ⟨ad101, e101, hx101_0⟩ := Kd.at_string HR0.out x7_1 p101 q101
              cases e101
              replace p101 := eq_true p101
              replace q101 := eq_true q101
              go_wp2
              go_ret
              exact ⟨by first | rfl | (simp; done) | (simp [*]; done) | (simp [bne]; done) | (simp [bne, List.isEmpty_iff]; done) | (cases a0.toList <;> simp; done), by repeat (first | exact Drawn0.refl _ | apply Drawn0.step)⟩
            · rw [if_neg c5] at H
              have c5b0 : decide (65536 < ((rdOf ByteArray.empty l0 x7_1).size : Int)) = false := decide_eq_false c5
              have c5b1 : decide (65536 < (rdOf ByteArray.empty l0 x7_1).size) = false := decide_eq_false (by omega)
              clear c5
              have H' := Aside0.mk H
              clear H
              have p101 : 0 ≤ (x7_1 : Int) := of_decide_eq_true (by first | (with_reducible assumption) | assumption)
              have q101 : x7_1 < (l0.length : Int) := of_decide_eq_true (by first | (with_reducible assumption) | assumption)
              obtain ⟨ad101, e101, hx101_0⟩ := Kd.at_string HR0.out x7_1 p101 q101
              cases e101
              replace p101 := eq_true p101
              replace q101 := eq_true q101
              go_wp2
              go_roundg k1
              case measure => have := HK1.out; omega
              case rel => exact ⟨(wrap64 (x7_1 + 1)), (by first | rfl | (simp; done) | (simp [*]; done)), H', ⟨by have := HK1.out; omega⟩, by repeat (first | exact Drawn0.refl _ | apply Drawn0.step)⟩
          · rw [if_neg c4] at H
            exact absurd H (by simp)
        · rw [if_neg c3] at H
          exact absurd H (by simp)
      · rw [if_neg c2] at H
        have c2b0 : decide (x7_1 < (l0.length : Int)) = false := decide_eq_false c2
        clear c2
        obtain rfl := Option.some.inj H
        go_wp2
        go_ret
        exact ⟨by first | rfl | (simp; done) | (simp [*]; done) | (simp [bne]; done) | (simp [bne, List.isEmpty_iff]; done) | (cases a0.toList <;> simp; done), by repeat (first | exact Drawn0.refl _ | apply Drawn0.step)⟩

/-! ### laws_FnSemverStrictReads: function 8 -/
def laws_FnSemverStrictReads.f (k : Nat) (a0 : ByteArray) : Option (Bool) := if (a0.size : Int) > 2147483647 then (some true) else ((laws_svShort.f k (([a0] : List ByteArray))).bind fun t105 => (if t105 = true then ((HandS.StrictVersion.f a0).bind fun bt106 => ((HandS.SpecStrict.f a0).bind fun bt113 => (if (bt106.2.2.2.2.2 == bt113.2.2.2.2.2) = true then (some (bt106.1 == bt113.1 && (bt106.2.1 == bt113.2.1 && (bt106.2.2.1 == bt113.2.2.1 && (bt106.2.2.2.1.toList == bt113.2.2.2.1.toList && (bt106.2.2.2.2.1.toList == bt113.2.2.2.2.1.toList)))))) else (some false)))) else (some true)))
theorem laws_FnSemverStrictReads.mono : ∀ a0 k, LeO (laws_FnSemverStrictReads.f k a0) (laws_FnSemverStrictReads.f (k + 1) a0) := by
  intro a0 k
  unfold laws_FnSemverStrictReads.f
  repeat' first
      | (with_reducible exact laws_svShort.mono _ _)
      | (with_reducible exact LeO.refl _)
      | (with_reducible exact LeO.none _)
      | (with_reducible refine LeO.ite ?_ ?_)
      | (with_reducible refine LeO.bind ?_ (fun _ => ?_))
      | exact laws_svShort.mono _ _
      | exact LeO.none _
      | refine LeO.ite ?_ ?_
      | refine LeO.bind ?_ (fun _ => ?_)
set_option maxHeartbeats 8000000 in
set_option maxRecDepth 100000 in
theorem laws_FnSemverStrictReads.calls (k : Nat) (a0 : ByteArray) (r : Bool) (w : World) (hG0 : HandS.GlS w) (h : laws_FnSemverStrictReads.f k a0 = some r) :
    Calls Tryd.prog 8 #[.string a0] w fun e w' => e = .returned (.bool r) ∧ Below w.heap.size w w' := by
  have HG := Aside0.mk hG0
  clear hG0
  have hu29 := Tryd.underlying29
  have HB := Aside0.mk (Below.refl w.heap.size w)
  have H : (if (a0.size : Int) > 2147483647 then (some true) else ((laws_svShort.f k (([a0] : List ByteArray))).bind fun t105 => (if t105 = true then ((HandS.StrictVersion.f a0).bind fun bt106 => ((HandS.SpecStrict.f a0).bind fun bt113 => (if (bt106.2.2.2.2.2 == bt113.2.2.2.2.2) = true then (some (bt106.1 == bt113.1 && (bt106.2.1 == bt113.2.1 && (bt106.2.2.1 == bt113.2.2.1 && (bt106.2.2.2.1.toList == bt113.2.2.2.1.toList && (bt106.2.2.2.2.1.toList == bt113.2.2.2.2.1.toList)))))) else (some false)))) else (some true)))) = some r := h
  clear h
  by_cases c2 : (a0.size : Int) > 2147483647
  · rw [if_pos c2] at H
    have c2b0 : decide (2147483647 < (a0.size : Int)) = true := decide_eq_true c2
    have c2b1 : decide (2147483647 < a0.size) = true := decide_eq_true (by omega)
    clear c2
    obtain rfl := Option.some.inj H
    go_enter Tryd.func8, Tryd.ntmps8
    go_wp2
    go_ret
    exact ⟨by first | rfl | (simp [errW_none, errW_some] <;> rfl) | (simp [*, errW_none, errW_some] <;> rfl), by repeat (first | (with_reducible first | exact HB.out | apply below_alloc | apply pw_below_drewN | apply below_drew1) | exact HB.out)⟩
  · rw [if_neg c2] at H
    have c2b0 : decide (2147483647 < (a0.size : Int)) = false := decide_eq_false c2
    have c2b1 : decide (2147483647 < a0.size) = false := decide_eq_false (by omega)
    clear c2
    obtain ⟨y102, hy102⟩ : ∃ y_ : List ByteArray, y_ = (([a0] : List ByteArray)) := ⟨_, rfl⟩
    replace H : ((laws_svShort.f k y102).bind fun t105 => (if t105 = true then ((HandS.StrictVersion.f a0).bind fun bt106 => ((HandS.SpecStrict.f a0).bind fun bt113 => (if (bt106.2.2.2.2.2 == bt113.2.2.2.2.2) = true then (some (bt106.1 == bt113.1 && (bt106.2.1 == bt113.2.1 && (bt106.2.2.1 == bt113.2.2.1 && (bt106.2.2.2.1.toList == bt113.2.2.2.1.toList && (bt106.2.2.2.2.1.toList == bt113.2.2.2.2.1.toList)))))) else (some false)))) else (some true))) = some r := by first | (rw [hy102]; with_reducible exact H) | (have H2_ := (Option.bind_some _ _).symm.trans H; rw [hy102]; with_reducible exact H2_) | (have H2_ := (Option.bind_some _ _).symm.trans H; with_reducible exact H2_) | with_reducible exact H | (rw [hy102]; exact H) | exact H
    have Ny102 := Aside0.mk hy102
    clear hy102
    replace H := Option.bind_eq_some_iff.mp H
    obtain ⟨t105, A30, H⟩ := H
    replace H : (if t105 = true then ((HandS.StrictVersion.f a0).bind fun bt106 => ((HandS.SpecStrict.f a0).bind fun bt113 => (if (bt106.2.2.2.2.2 == bt113.2.2.2.2.2) = true then (some (bt106.1 == bt113.1 && (bt106.2.1 == bt113.2.1 && (bt106.2.2.1 == bt113.2.2.1 && (bt106.2.2.2.1.toList == bt113.2.2.2.1.toList && (bt106.2.2.2.2.1.toList == bt113.2.2.2.2.1.toList)))))) else (some false)))) else (some true)) = some r := H
    have A3 := Aside0.mk A30
    clear A30
    by_cases c4 : t105 = true
    · subst c4
      have H1 : ((HandS.StrictVersion.f a0).bind fun bt106 => ((HandS.SpecStrict.f a0).bind fun bt113 => (if (bt106.2.2.2.2.2 == bt113.2.2.2.2.2) = true then (some (bt106.1 == bt113.1 && (bt106.2.1 == bt113.2.1 && (bt106.2.2.1 == bt113.2.2.1 && (bt106.2.2.2.1.toList == bt113.2.2.2.1.toList && (bt106.2.2.2.2.1.toList == bt113.2.2.2.2.1.toList)))))) else (some false)))) = some r := by rw [if_pos rfl] at H; exact H
      clear H
      have H := H1
      clear H1
      replace H := Option.bind_eq_some_iff.mp H
      obtain ⟨⟨t106, t107, t108, t109, t110, t111⟩, A50, H⟩ := H
      replace H : ((HandS.SpecStrict.f a0).bind fun bt113 => (if (t111 == bt113.2.2.2.2.2) = true then (some (t106 == bt113.1 && (t107 == bt113.2.1 && (t108 == bt113.2.2.1 && (t109.toList == bt113.2.2.2.1.toList && (t110.toList == bt113.2.2.2.2.1.toList)))))) else (some false))) = some r := H
      have A5 := Aside0.mk A50
      clear A50
      replace H := Option.bind_eq_some_iff.mp H
      obtain ⟨⟨t113, t114, t115, t116, t117, t118⟩, A60, H⟩ := H
      replace H : (if (t111 == t118) = true then (some (t106 == t113 && (t107 == t114 && (t108 == t115 && (t109.toList == t116.toList && (t110.toList == t117.toList)))))) else (some false)) = some r := H
      have A6 := Aside0.mk A60
      clear A60
      by_cases c7 : (t111 == t118) = true
      · rw [if_pos c7] at H
        have c7b0 : (t111 == t118) = true := c7
        (try (have c7b1 : decide (t111 = t118) = true := by simpa using c7))
        (try (have c7b2 : (t111 == t118) = true := by simpa using c7))
        clear c7
        obtain rfl := Option.some.inj H
        go_enter Tryd.func8, Tryd.ntmps8
        go_wp2_with (first | ((with_reducible refine gate_dst (N := 11) rfl ?_); refine Kd.R_lit Kd.string _ 9 ?hg (N := 11) ?hd (xs := ([a0] : List ByteArray)) (inner := [.string a0]) (ok := fun _ => True) (okp := fun _ => True) ?hr ?hp (fun _ hk => hk) trivial (Below.refl _ _) (Nat.le_refl _) (by simp) ?_; (case hd => rfl); (case hg => rfl); (case hr => first | (go_simp; done) | (go_simp; rfl)); (case hp => exact (Reps.one (show Kd.M Kd.string _ _ _ a0 [.string a0] from rfl) (Reps.none _ _))); intro v103 w8 ho9 hb hg_ hnew_; clear hg_ hnew_; (first | rw [← Ny102.out] at ho9 | (simp only [Int.reduceToNat] at ho9; rw [← Ny102.out] at ho9)); have n0_ := Aside0.mk (Kd.R_lower ho9 (below_size (by repeat (first | (with_reducible first | exact HB.out | apply below_alloc | apply pw_below_drewN | apply below_drew1) | exact HB.out)))); have n1_ := Aside0.mk (below_step (by repeat (first | (with_reducible first | exact HB.out | apply below_alloc | apply pw_below_drewN | apply below_drew1) | exact HB.out)) hb); clear HB; have HO104 := n0_; have HB := n1_; clear n0_ n1_; clear hb ho9; obtain ⟨Ao10, co10, eo10⟩ := Kd.R_slice HO104.out; subst eo10) | ((with_reducible refine gate_callee (f := 21) rfl ?_); refine goesL_ (some 12) rfl rfl Tryd.func21 (by kernel_rfl) rfl #[.slice Ao10 y102.length co10] rfl (by (try simp only [List.map_toArray, List.map_cons, List.map_nil]); first | done | rfl | (simp only [List.length_drop, List.length_take]; rfl)) ?_; (with_reducible refine (laws_svShort.calls k _ _ y102 true _ ?side1 ?side2 A3.out).mono ?_); (case side1 => repeat (first | exact (Kd.R_reads' HO104.out).2.2 | (with_reducible refine Kd.C_alloc ?_ _) | (with_reducible refine Kd.C_drewN ?_ _) | (with_reducible refine Kd.C_drew ?_))); (case side2 => exact (Kd.R_reads' HO104.out).2.1); rintro e w' ⟨rfl, ⟨nd, rfl⟩⟩; refine ⟨_, rfl, ?_⟩; (try (rw [drewN_self w8]; generalize hq_ : World.drewN w8 _ = w8; have n0_ : Aside0 (Kd.R Kd.string 9 w8 w.heap.size (fun _ => True) (.slice Ao10 y102.length co10) y102) := ⟨by rw [← hq_]; exact (by (with_reducible repeat (first | apply Kd.R_alloc | apply Kd.R_drewN | apply Kd.R_drew)); exact HO104.out)⟩; have n1_ : Aside0 (Below w.heap.size w w8) := ⟨by rw [← hq_]; exact (by repeat (first | (with_reducible first | exact HB.out | apply below_alloc | apply pw_below_drewN | apply below_drew1) | exact HB.out))⟩; clear HO104 HB hq_; have HO104 := n0_; have HB := n1_; clear n0_ n1_))) | ((with_reducible refine gate_callee (f := 34) rfl ?_); refine goesL_ (some 16) rfl rfl Tryd.func34 (by kernel_rfl) rfl #[.string a0] rfl (by (try simp only [List.map_toArray, List.map_cons, List.map_nil]); first | done | rfl | (simp only [List.length_drop, List.length_take]; rfl)) ?_; (with_reducible refine (HandS.StrictVersion.calls a0 t106 t107 t108 t109 t110 t111 _ ?gl1 A5.out).mono ?_); (case gl1 => first | exact HG.out | exact HandS.GlS.below HG.out (by repeat (first | (with_reducible first | exact HB.out | apply below_alloc | apply pw_below_drewN | apply below_drew1) | exact HB.out))); rintro e w11 ⟨rfl, hb⟩; refine ⟨_, rfl, ?_⟩; have n0_ := Aside0.mk (Kd.R_below (by (with_reducible repeat (first | apply Kd.R_alloc | apply Kd.R_drewN | apply Kd.R_drew)); exact HO104.out) hb); have n1_ := Aside0.mk (below_step (by repeat (first | (with_reducible first | exact HB.out | apply below_alloc | apply pw_below_drewN | apply below_drew1) | exact HB.out)) hb); clear HO104; clear HB; have HO104 := n0_; have HB := n1_; clear n0_ n1_; (try clear hb); (try clear hb2); (try clear hk); (try clear hi)) | ((with_reducible refine gate_dst (N := 3) rfl ?_); refine box_event ?hg (N := 3) ?hd (cs := #[.int .u64 0, .int .u64 0, .int .u64 0, .string (⟨#[]⟩ : ByteArray), .string (⟨#[]⟩ : ByteArray)]) (t := 29) ?hr ?_; (case hd => rfl); (case hg => rfl); (case hr => first | (go_simp; done) | (go_simp; rfl)); intro gb112 hg w12 hbox hb; have n0_ := Aside0.mk (Kd.R_below (by (with_reducible repeat (first | apply Kd.R_alloc | apply Kd.R_drewN | apply Kd.R_drew)); exact HO104.out) hb); have n1_ := Aside0.mk (below_step (by repeat (first | (with_reducible first | exact HB.out | apply below_alloc | apply pw_below_drewN | apply below_drew1) | exact HB.out)) hb); have n2_ := Aside0.mk (hbox); have n3_ := Aside0.mk ((by rw [hg]; exact (below_size (by repeat (first | (with_reducible first | exact HB.out | apply below_alloc | apply pw_below_drewN | apply below_drew1) | exact HB.out))) : w.heap.size ≤ gb112)); have n4_ := Aside0.mk ((by rw [hg]; exact (below_size (by repeat (first | (with_reducible first | exact HB.out | apply below_alloc | apply pw_below_drewN | apply below_drew1) | exact HB.out))) : w.heap.size ≤ gb112)); clear HO104; clear HB; have HO104 := n0_; have HB := n1_; have BK112 := n2_; have GW112 := n3_; have GE112 := n4_; clear n0_ n1_ n2_ n3_ n4_; clear hb hbox hg; have hcz13_0 : w12.cell? ⟨gb112, 0, none⟩ = some (.int .u64 0) := (blk_cell BK112.out 0).trans rfl; have hcz13_1 : w12.cell? ⟨gb112, 1, none⟩ = some (.int .u64 0) := (blk_cell BK112.out 1).trans rfl; have hcz13_2 : w12.cell? ⟨gb112, 2, none⟩ = some (.int .u64 0) := (blk_cell BK112.out 2).trans rfl; have hcz13_3 : w12.cell? ⟨gb112, 3, none⟩ = some (.string (⟨#[]⟩ : ByteArray)) := (blk_cell BK112.out 3).trans rfl; have hcz13_4 : w12.cell? ⟨gb112, 4, none⟩ = some (.string (⟨#[]⟩ : ByteArray)) := (blk_cell BK112.out 4).trans rfl; have hfz13_0 := blk_frozen BK112.out 0; have hfz13_1 := blk_frozen BK112.out 1; have hfz13_2 := blk_frozen BK112.out 2; have hfz13_3 := blk_frozen BK112.out 3; have hfz13_4 := blk_frozen BK112.out 4) | ((with_reducible refine gate_callee (f := 35) rfl ?_); refine goesL_ (some 21) rfl rfl Tryd.func35 (by kernel_rfl) rfl #[.string a0] rfl (by (try simp only [List.map_toArray, List.map_cons, List.map_nil]); first | done | rfl | (simp only [List.length_drop, List.length_take]; rfl)) ?_; (with_reducible refine (HandS.SpecStrict.calls a0 t113 t114 t115 t116 t117 t118 _ A6.out).mono ?_); rintro e w14 ⟨rfl, hb⟩; refine ⟨_, rfl, ?_⟩; have n0_ := Aside0.mk (Kd.R_below (by (with_reducible repeat (first | apply Kd.R_alloc | apply Kd.R_drewN | apply Kd.R_drew)); exact (Kd.R_mono (Kd.R_far (p := ⟨gb112, 4, none⟩) (Kd.R_far (p := ⟨gb112, 3, none⟩) (Kd.R_far (p := ⟨gb112, 2, none⟩) (Kd.R_far (p := ⟨gb112, 1, none⟩) (Kd.R_far (p := ⟨gb112, 0, none⟩) (Kd.R_types HO104.out BK112.out (by decide)) (fun _ hk => hk.2) (.int .u64 t106)) (fun _ hk => hk.2) (.int .u64 t107)) (fun _ hk => hk.2) (.int .u64 t108)) (fun _ hk => hk.2) (.string t109)) (fun _ hk => hk.2) (.string t110)) (fun _ h_ => h_.1))) hb); have n1_ := Aside0.mk (blk_below (g := gb112) (o := .cells #[.int .u64 t106, .int .u64 t107, .int .u64 t108, .string t109, .string t110] 29 (0, 0)) (by (with_reducible repeat (first | refine blk_drewN ?_ _ | refine blk_drew ?_ | refine blk_alloc ?_ _)); refine blk_put (cs := #[.int .u64 t106, .int .u64 t107, .int .u64 t108, .string t109, .string (⟨#[]⟩ : ByteArray)]) ?_ 4 _ rfl; (with_reducible repeat (first | refine blk_drewN ?_ _ | refine blk_drew ?_ | refine blk_alloc ?_ _)); refine blk_put (cs := #[.int .u64 t106, .int .u64 t107, .int .u64 t108, .string (⟨#[]⟩ : ByteArray), .string (⟨#[]⟩ : ByteArray)]) ?_ 3 _ rfl; (with_reducible repeat (first | refine blk_drewN ?_ _ | refine blk_drew ?_ | refine blk_alloc ?_ _)); refine blk_put (cs := #[.int .u64 t106, .int .u64 t107, .int .u64 0, .string (⟨#[]⟩ : ByteArray), .string (⟨#[]⟩ : ByteArray)]) ?_ 2 _ rfl; (with_reducible repeat (first | refine blk_drewN ?_ _ | refine blk_drew ?_ | refine blk_alloc ?_ _)); refine blk_put (cs := #[.int .u64 t106, .int .u64 0, .int .u64 0, .string (⟨#[]⟩ : ByteArray), .string (⟨#[]⟩ : ByteArray)]) ?_ 1 _ rfl; (with_reducible repeat (first | refine blk_drewN ?_ _ | refine blk_drew ?_ | refine blk_alloc ?_ _)); refine blk_put (cs := #[.int .u64 0, .int .u64 0, .int .u64 0, .string (⟨#[]⟩ : ByteArray), .string (⟨#[]⟩ : ByteArray)]) ?_ 0 _ rfl; (with_reducible repeat (first | refine blk_drewN ?_ _ | refine blk_drew ?_ | refine blk_alloc ?_ _)); exact BK112.out) hb); have n2_ := Aside0.mk (below_step (by repeat (first | (with_reducible first | exact HB.out | apply below_alloc | apply pw_below_drewN | apply below_drew1 | refine below_set ?_ GE112.out) | exact HB.out)) hb); clear HO104; clear BK112; clear HB; have HO104 := n0_; have BK112 := n1_; have HB := n2_; clear n0_ n1_ n2_; (try clear hb); (try clear hb2); (try clear hk); (try clear hi)) | ((with_reducible refine gate_dst (N := 5) rfl ?_); refine box_event ?hg (N := 5) ?hd (cs := #[.int .u64 0, .int .u64 0, .int .u64 0, .string (⟨#[]⟩ : ByteArray), .string (⟨#[]⟩ : ByteArray)]) (t := 29) ?hr ?_; (case hd => rfl); (case hg => rfl); (case hr => first | (go_simp; done) | (go_simp; rfl)); intro gb119 hg w15 hbox hb; have n0_ := Aside0.mk (Kd.R_below (by (with_reducible repeat (first | apply Kd.R_alloc | apply Kd.R_drewN | apply Kd.R_drew)); exact HO104.out) hb); have n1_ := Aside0.mk (blk_below (g := gb112) (o := .cells #[.int .u64 t106, .int .u64 t107, .int .u64 t108, .string t109, .string t110] 29 (0, 0)) (by (with_reducible repeat (first | refine blk_drewN ?_ _ | refine blk_drew ?_ | refine blk_alloc ?_ _)); exact BK112.out) hb); have n2_ := Aside0.mk (below_step (by repeat (first | (with_reducible first | exact HB.out | apply below_alloc | apply pw_below_drewN | apply below_drew1 | refine below_set ?_ GE112.out) | exact HB.out)) hb); have n3_ := Aside0.mk (hbox); have n4_ := Aside0.mk ((by rw [hg]; exact (below_size (by repeat (first | (with_reducible first | exact HB.out | apply below_alloc | apply pw_below_drewN | apply below_drew1 | refine below_set ?_ GE112.out) | exact HB.out))) : w.heap.size ≤ gb119)); have n5_ := Aside0.mk ((by rw [hg]; exact (below_size (by repeat (first | (with_reducible first | exact HB.out | apply below_alloc | apply pw_below_drewN | apply below_drew1 | refine below_set ?_ GE112.out) | exact HB.out))) : w.heap.size ≤ gb119)); have n6_ := Aside0.mk ((by rw [hg]; exact Nat.ne_of_lt (blk_lt (g := gb112) (o := .cells #[.int .u64 t106, .int .u64 t107, .int .u64 t108, .string t109, .string t110] 29 (0, 0)) (by (with_reducible repeat (first | refine blk_drewN ?_ _ | refine blk_drew ?_ | refine blk_alloc ?_ _)); exact BK112.out)) : gb112 ≠ gb119)); have n7_ := Aside0.mk ((by rw [hg]; exact Nat.ne_of_gt (blk_lt (g := gb112) (o := .cells #[.int .u64 t106, .int .u64 t107, .int .u64 t108, .string t109, .string t110] 29 (0, 0)) (by (with_reducible repeat (first | refine blk_drewN ?_ _ | refine blk_drew ?_ | refine blk_alloc ?_ _)); exact BK112.out)) : gb119 ≠ gb112)); clear HO104; clear BK112; clear HB; have HO104 := n0_; have BK112 := n1_; have HB := n2_; have BK119 := n3_; have GW119 := n4_; have GE119 := n5_; have NB112_119 := n6_; have NB119_112 := n7_; clear n0_ n1_ n2_ n3_ n4_ n5_ n6_ n7_; clear hb hbox hg; have hnb16 := NB119_112.out; have hnc16 := NB112_119.out; have hcz17_0 : w15.cell? ⟨gb119, 0, none⟩ = some (.int .u64 0) := (blk_cell BK119.out 0).trans rfl; have hcz17_1 : w15.cell? ⟨gb119, 1, none⟩ = some (.int .u64 0) := (blk_cell BK119.out 1).trans rfl; have hcz17_2 : w15.cell? ⟨gb119, 2, none⟩ = some (.int .u64 0) := (blk_cell BK119.out 2).trans rfl; have hcz17_3 : w15.cell? ⟨gb119, 3, none⟩ = some (.string (⟨#[]⟩ : ByteArray)) := (blk_cell BK119.out 3).trans rfl; have hcz17_4 : w15.cell? ⟨gb119, 4, none⟩ = some (.string (⟨#[]⟩ : ByteArray)) := (blk_cell BK119.out 4).trans rfl; have hfz17_0 := blk_frozen BK119.out 0; have hfz17_1 := blk_frozen BK119.out 1; have hfz17_2 := blk_frozen BK119.out 2; have hfz17_3 := blk_frozen BK119.out 3; have hfz17_4 := blk_frozen BK119.out 4; have hcz18_0 : w15.cell? ⟨gb112, 0, none⟩ = some (.int .u64 t106) := (blk_cell BK112.out 0).trans rfl; have hcz18_1 : w15.cell? ⟨gb112, 1, none⟩ = some (.int .u64 t107) := (blk_cell BK112.out 1).trans rfl; have hcz18_2 : w15.cell? ⟨gb112, 2, none⟩ = some (.int .u64 t108) := (blk_cell BK112.out 2).trans rfl; have hcz18_3 : w15.cell? ⟨gb112, 3, none⟩ = some (.string t109) := (blk_cell BK112.out 3).trans rfl; have hcz18_4 : w15.cell? ⟨gb112, 4, none⟩ = some (.string t110) := (blk_cell BK112.out 4).trans rfl; have hfz18_0 := blk_frozen BK112.out 0; have hfz18_1 := blk_frozen BK112.out 1; have hfz18_2 := blk_frozen BK112.out 2; have hfz18_3 := blk_frozen BK112.out 3; have hfz18_4 := blk_frozen BK112.out 4))
        go_ret
        exact ⟨by first | rfl | (simp [errW_none, errW_some] <;> rfl) | (simp [*, errW_none, errW_some] <;> rfl), by repeat (first | (with_reducible first | exact HB.out | apply below_alloc | apply pw_below_drewN | apply below_drew1 | refine below_set ?_ GE112.out | refine below_set ?_ GE119.out) | exact HB.out)⟩
      · rw [if_neg c7] at H
        have c7b0 : (t111 == t118) = false := by simpa using c7
        (try (have c7b1 : decide (t111 = t118) = false := by simpa using c7))
        (try (have c7b2 : (t111 == t118) = false := by simpa using c7))
        (try (have c7b3 : ¬ (t111 = t118) := by simpa using c7))
        clear c7
        obtain rfl := Option.some.inj H
        go_enter Tryd.func8, Tryd.ntmps8
        go_wp2_with (first | ((with_reducible refine gate_dst (N := 11) rfl ?_); refine Kd.R_lit Kd.string _ 9 ?hg (N := 11) ?hd (xs := ([a0] : List ByteArray)) (inner := [.string a0]) (ok := fun _ => True) (okp := fun _ => True) ?hr ?hp (fun _ hk => hk) trivial (Below.refl _ _) (Nat.le_refl _) (by simp) ?_; (case hd => rfl); (case hg => rfl); (case hr => first | (go_simp; done) | (go_simp; rfl)); (case hp => exact (Reps.one (show Kd.M Kd.string _ _ _ a0 [.string a0] from rfl) (Reps.none _ _))); intro v103 w19 ho20 hb hg_ hnew_; clear hg_ hnew_; (first | rw [← Ny102.out] at ho20 | (simp only [Int.reduceToNat] at ho20; rw [← Ny102.out] at ho20)); have n0_ := Aside0.mk (Kd.R_lower ho20 (below_size (by repeat (first | (with_reducible first | exact HB.out | apply below_alloc | apply pw_below_drewN | apply below_drew1) | exact HB.out)))); have n1_ := Aside0.mk (below_step (by repeat (first | (with_reducible first | exact HB.out | apply below_alloc | apply pw_below_drewN | apply below_drew1) | exact HB.out)) hb); clear HB; have HO104 := n0_; have HB := n1_; clear n0_ n1_; clear hb ho20; obtain ⟨Ao21, co21, eo21⟩ := Kd.R_slice HO104.out; subst eo21) | ((with_reducible refine gate_callee (f := 21) rfl ?_); refine goesL_ (some 12) rfl rfl Tryd.func21 (by kernel_rfl) rfl #[.slice Ao21 y102.length co21] rfl (by (try simp only [List.map_toArray, List.map_cons, List.map_nil]); first | done | rfl | (simp only [List.length_drop, List.length_take]; rfl)) ?_; (with_reducible refine (laws_svShort.calls k _ _ y102 true _ ?side1 ?side2 A3.out).mono ?_); (case side1 => repeat (first | exact (Kd.R_reads' HO104.out).2.2 | (with_reducible refine Kd.C_alloc ?_ _) | (with_reducible refine Kd.C_drewN ?_ _) | (with_reducible refine Kd.C_drew ?_))); (case side2 => exact (Kd.R_reads' HO104.out).2.1); rintro e w' ⟨rfl, ⟨nd, rfl⟩⟩; refine ⟨_, rfl, ?_⟩; (try (rw [drewN_self w19]; generalize hq_ : World.drewN w19 _ = w19; have n0_ : Aside0 (Kd.R Kd.string 9 w19 w.heap.size (fun _ => True) (.slice Ao21 y102.length co21) y102) := ⟨by rw [← hq_]; exact (by (with_reducible repeat (first | apply Kd.R_alloc | apply Kd.R_drewN | apply Kd.R_drew)); exact HO104.out)⟩; have n1_ : Aside0 (Below w.heap.size w w19) := ⟨by rw [← hq_]; exact (by repeat (first | (with_reducible first | exact HB.out | apply below_alloc | apply pw_below_drewN | apply below_drew1) | exact HB.out))⟩; clear HO104 HB hq_; have HO104 := n0_; have HB := n1_; clear n0_ n1_))) | ((with_reducible refine gate_callee (f := 34) rfl ?_); refine goesL_ (some 16) rfl rfl Tryd.func34 (by kernel_rfl) rfl #[.string a0] rfl (by (try simp only [List.map_toArray, List.map_cons, List.map_nil]); first | done | rfl | (simp only [List.length_drop, List.length_take]; rfl)) ?_; (with_reducible refine (HandS.StrictVersion.calls a0 t106 t107 t108 t109 t110 t111 _ ?gl2 A5.out).mono ?_); (case gl2 => first | exact HG.out | exact HandS.GlS.below HG.out (by repeat (first | (with_reducible first | exact HB.out | apply below_alloc | apply pw_below_drewN | apply below_drew1) | exact HB.out))); rintro e w22 ⟨rfl, hb⟩; refine ⟨_, rfl, ?_⟩; have n0_ := Aside0.mk (Kd.R_below (by (with_reducible repeat (first | apply Kd.R_alloc | apply Kd.R_drewN | apply Kd.R_drew)); exact HO104.out) hb); have n1_ := Aside0.mk (below_step (by repeat (first | (with_reducible first | exact HB.out | apply below_alloc | apply pw_below_drewN | apply below_drew1) | exact HB.out)) hb); clear HO104; clear HB; have HO104 := n0_; have HB := n1_; clear n0_ n1_; (try clear hb); (try clear hb2); (try clear hk); (try clear hi)) | ((with_reducible refine gate_dst (N := 3) rfl ?_); refine box_event ?hg (N := 3) ?hd (cs := #[.int .u64 0, .int .u64 0, .int .u64 0, .string (⟨#[]⟩ : ByteArray), .string (⟨#[]⟩ : ByteArray)]) (t := 29) ?hr ?_; (case hd => rfl); (case hg => rfl); (case hr => first | (go_simp; done) | (go_simp; rfl)); intro gb112 hg w23 hbox hb; have n0_ := Aside0.mk (Kd.R_below (by (with_reducible repeat (first | apply Kd.R_alloc | apply Kd.R_drewN | apply Kd.R_drew)); exact HO104.out) hb); have n1_ := Aside0.mk (below_step (by repeat (first | (with_reducible first | exact HB.out | apply below_alloc | apply pw_below_drewN | apply below_drew1) | exact HB.out)) hb); have n2_ := Aside0.mk (hbox); have n3_ := Aside0.mk ((by rw [hg]; exact (below_size (by repeat (first | (with_reducible first | exact HB.out | apply below_alloc | apply pw_below_drewN | apply below_drew1) | exact HB.out))) : w.heap.size ≤ gb112)); have n4_ := Aside0.mk ((by rw [hg]; exact (below_size (by repeat (first | (with_reducible first | exact HB.out | apply below_alloc | apply pw_below_drewN | apply below_drew1) | exact HB.out))) : w.heap.size ≤ gb112)); clear HO104; clear HB; have HO104 := n0_; have HB := n1_; have BK112 := n2_; have GW112 := n3_; have GE112 := n4_; clear n0_ n1_ n2_ n3_ n4_; clear hb hbox hg; have hcz24_0 : w23.cell? ⟨gb112, 0, none⟩ = some (.int .u64 0) := (blk_cell BK112.out 0).trans rfl; have hcz24_1 : w23.cell? ⟨gb112, 1, none⟩ = some (.int .u64 0) := (blk_cell BK112.out 1).trans rfl; have hcz24_2 : w23.cell? ⟨gb112, 2, none⟩ = some (.int .u64 0) := (blk_cell BK112.out 2).trans rfl; have hcz24_3 : w23.cell? ⟨gb112, 3, none⟩ = some (.string (⟨#[]⟩ : ByteArray)) := (blk_cell BK112.out 3).trans rfl; have hcz24_4 : w23.cell? ⟨gb112, 4, none⟩ = some (.string (⟨#[]⟩ : ByteArray)) := (blk_cell BK112.out 4).trans rfl; have hfz24_0 := blk_frozen BK112.out 0; have hfz24_1 := blk_frozen BK112.out 1; have hfz24_2 := blk_frozen BK112.out 2; have hfz24_3 := blk_frozen BK112.out 3; have hfz24_4 := blk_frozen BK112.out 4) | ((with_reducible refine gate_callee (f := 35) rfl ?_); refine goesL_ (some 21) rfl rfl Tryd.func35 (by kernel_rfl) rfl #[.string a0] rfl (by (try simp only [List.map_toArray, List.map_cons, List.map_nil]); first | done | rfl | (simp only [List.length_drop, List.length_take]; rfl)) ?_; (with_reducible refine (HandS.SpecStrict.calls a0 t113 t114 t115 t116 t117 t118 _ A6.out).mono ?_); rintro e w25 ⟨rfl, hb⟩; refine ⟨_, rfl, ?_⟩; have n0_ := Aside0.mk (Kd.R_below (by (with_reducible repeat (first | apply Kd.R_alloc | apply Kd.R_drewN | apply Kd.R_drew)); exact (Kd.R_mono (Kd.R_far (p := ⟨gb112, 4, none⟩) (Kd.R_far (p := ⟨gb112, 3, none⟩) (Kd.R_far (p := ⟨gb112, 2, none⟩) (Kd.R_far (p := ⟨gb112, 1, none⟩) (Kd.R_far (p := ⟨gb112, 0, none⟩) (Kd.R_types HO104.out BK112.out (by decide)) (fun _ hk => hk.2) (.int .u64 t106)) (fun _ hk => hk.2) (.int .u64 t107)) (fun _ hk => hk.2) (.int .u64 t108)) (fun _ hk => hk.2) (.string t109)) (fun _ hk => hk.2) (.string t110)) (fun _ h_ => h_.1))) hb); have n1_ := Aside0.mk (blk_below (g := gb112) (o := .cells #[.int .u64 t106, .int .u64 t107, .int .u64 t108, .string t109, .string t110] 29 (0, 0)) (by (with_reducible repeat (first | refine blk_drewN ?_ _ | refine blk_drew ?_ | refine blk_alloc ?_ _)); refine blk_put (cs := #[.int .u64 t106, .int .u64 t107, .int .u64 t108, .string t109, .string (⟨#[]⟩ : ByteArray)]) ?_ 4 _ rfl; (with_reducible repeat (first | refine blk_drewN ?_ _ | refine blk_drew ?_ | refine blk_alloc ?_ _)); refine blk_put (cs := #[.int .u64 t106, .int .u64 t107, .int .u64 t108, .string (⟨#[]⟩ : ByteArray), .string (⟨#[]⟩ : ByteArray)]) ?_ 3 _ rfl; (with_reducible repeat (first | refine blk_drewN ?_ _ | refine blk_drew ?_ | refine blk_alloc ?_ _)); refine blk_put (cs := #[.int .u64 t106, .int .u64 t107, .int .u64 0, .string (⟨#[]⟩ : ByteArray), .string (⟨#[]⟩ : ByteArray)]) ?_ 2 _ rfl; (with_reducible repeat (first | refine blk_drewN ?_ _ | refine blk_drew ?_ | refine blk_alloc ?_ _)); refine blk_put (cs := #[.int .u64 t106, .int .u64 0, .int .u64 0, .string (⟨#[]⟩ : ByteArray), .string (⟨#[]⟩ : ByteArray)]) ?_ 1 _ rfl; (with_reducible repeat (first | refine blk_drewN ?_ _ | refine blk_drew ?_ | refine blk_alloc ?_ _)); refine blk_put (cs := #[.int .u64 0, .int .u64 0, .int .u64 0, .string (⟨#[]⟩ : ByteArray), .string (⟨#[]⟩ : ByteArray)]) ?_ 0 _ rfl; (with_reducible repeat (first | refine blk_drewN ?_ _ | refine blk_drew ?_ | refine blk_alloc ?_ _)); exact BK112.out) hb); have n2_ := Aside0.mk (below_step (by repeat (first | (with_reducible first | exact HB.out | apply below_alloc | apply pw_below_drewN | apply below_drew1 | refine below_set ?_ GE112.out) | exact HB.out)) hb); clear HO104; clear BK112; clear HB; have HO104 := n0_; have BK112 := n1_; have HB := n2_; clear n0_ n1_ n2_; (try clear hb); (try clear hb2); (try clear hk); (try clear hi)) | ((with_reducible refine gate_dst (N := 5) rfl ?_); refine box_event ?hg (N := 5) ?hd (cs := #[.int .u64 0, .int .u64 0, .int .u64 0, .string (⟨#[]⟩ : ByteArray), .string (⟨#[]⟩ : ByteArray)]) (t := 29) ?hr ?_; (case hd => rfl); (case hg => rfl); (case hr => first | (go_simp; done) | (go_simp; rfl)); intro gb119 hg w26 hbox hb; have n0_ := Aside0.mk (Kd.R_below (by (with_reducible repeat (first | apply Kd.R_alloc | apply Kd.R_drewN | apply Kd.R_drew)); exact HO104.out) hb); have n1_ := Aside0.mk (blk_below (g := gb112) (o := .cells #[.int .u64 t106, .int .u64 t107, .int .u64 t108, .string t109, .string t110] 29 (0, 0)) (by (with_reducible repeat (first | refine blk_drewN ?_ _ | refine blk_drew ?_ | refine blk_alloc ?_ _)); exact BK112.out) hb); have n2_ := Aside0.mk (below_step (by repeat (first | (with_reducible first | exact HB.out | apply below_alloc | apply pw_below_drewN | apply below_drew1 | refine below_set ?_ GE112.out) | exact HB.out)) hb); have n3_ := Aside0.mk (hbox); have n4_ := Aside0.mk ((by rw [hg]; exact (below_size (by repeat (first | (with_reducible first | exact HB.out | apply below_alloc | apply pw_below_drewN | apply below_drew1 | refine below_set ?_ GE112.out) | exact HB.out))) : w.heap.size ≤ gb119)); have n5_ := Aside0.mk ((by rw [hg]; exact (below_size (by repeat (first | (with_reducible first | exact HB.out | apply below_alloc | apply pw_below_drewN | apply below_drew1 | refine below_set ?_ GE112.out) | exact HB.out))) : w.heap.size ≤ gb119)); have n6_ := Aside0.mk ((by rw [hg]; exact Nat.ne_of_lt (blk_lt (g := gb112) (o := .cells #[.int .u64 t106, .int .u64 t107, .int .u64 t108, .string t109, .string t110] 29 (0, 0)) (by (with_reducible repeat (first | refine blk_drewN ?_ _ | refine blk_drew ?_ | refine blk_alloc ?_ _)); exact BK112.out)) : gb112 ≠ gb119)); have n7_ := Aside0.mk ((by rw [hg]; exact Nat.ne_of_gt (blk_lt (g := gb112) (o := .cells #[.int .u64 t106, .int .u64 t107, .int .u64 t108, .string t109, .string t110] 29 (0, 0)) (by (with_reducible repeat (first | refine blk_drewN ?_ _ | refine blk_drew ?_ | refine blk_alloc ?_ _)); exact BK112.out)) : gb119 ≠ gb112)); clear HO104; clear BK112; clear HB; have HO104 := n0_; have BK112 := n1_; have HB := n2_; have BK119 := n3_; have GW119 := n4_; have GE119 := n5_; have NB112_119 := n6_; have NB119_112 := n7_; clear n0_ n1_ n2_ n3_ n4_ n5_ n6_ n7_; clear hb hbox hg; have hnb27 := NB119_112.out; have hnc27 := NB112_119.out; have hcz28_0 : w26.cell? ⟨gb119, 0, none⟩ = some (.int .u64 0) := (blk_cell BK119.out 0).trans rfl; have hcz28_1 : w26.cell? ⟨gb119, 1, none⟩ = some (.int .u64 0) := (blk_cell BK119.out 1).trans rfl; have hcz28_2 : w26.cell? ⟨gb119, 2, none⟩ = some (.int .u64 0) := (blk_cell BK119.out 2).trans rfl; have hcz28_3 : w26.cell? ⟨gb119, 3, none⟩ = some (.string (⟨#[]⟩ : ByteArray)) := (blk_cell BK119.out 3).trans rfl; have hcz28_4 : w26.cell? ⟨gb119, 4, none⟩ = some (.string (⟨#[]⟩ : ByteArray)) := (blk_cell BK119.out 4).trans rfl; have hfz28_0 := blk_frozen BK119.out 0; have hfz28_1 := blk_frozen BK119.out 1; have hfz28_2 := blk_frozen BK119.out 2; have hfz28_3 := blk_frozen BK119.out 3; have hfz28_4 := blk_frozen BK119.out 4))
        go_ret
        exact ⟨by first | rfl | (simp [errW_none, errW_some] <;> rfl) | (simp [*, errW_none, errW_some] <;> rfl), by repeat (first | (with_reducible first | exact HB.out | apply below_alloc | apply pw_below_drewN | apply below_drew1 | refine below_set ?_ GE112.out | refine below_set ?_ GE119.out) | exact HB.out)⟩
    · replace c4 := Bool.eq_false_iff.mpr c4
      subst c4
      have H1 : (some true) = some r := by rw [if_neg (show ¬ (false = true) by decide)] at H; exact H
      clear H
      have H := H1
      clear H1
      obtain rfl := Option.some.inj H
      go_enter Tryd.func8, Tryd.ntmps8
      go_wp2_with (first | ((with_reducible refine gate_dst (N := 11) rfl ?_); refine Kd.R_lit Kd.string _ 9 ?hg (N := 11) ?hd (xs := ([a0] : List ByteArray)) (inner := [.string a0]) (ok := fun _ => True) (okp := fun _ => True) ?hr ?hp (fun _ hk => hk) trivial (Below.refl _ _) (Nat.le_refl _) (by simp) ?_; (case hd => rfl); (case hg => rfl); (case hr => first | (go_simp; done) | (go_simp; rfl)); (case hp => exact (Reps.one (show Kd.M Kd.string _ _ _ a0 [.string a0] from rfl) (Reps.none _ _))); intro v103 w29 ho30 hb hg_ hnew_; clear hg_ hnew_; (first | rw [← Ny102.out] at ho30 | (simp only [Int.reduceToNat] at ho30; rw [← Ny102.out] at ho30)); have n0_ := Aside0.mk (Kd.R_lower ho30 (below_size (by repeat (first | (with_reducible first | exact HB.out | apply below_alloc | apply pw_below_drewN | apply below_drew1) | exact HB.out)))); have n1_ := Aside0.mk (below_step (by repeat (first | (with_reducible first | exact HB.out | apply below_alloc | apply pw_below_drewN | apply below_drew1) | exact HB.out)) hb); clear HB; have HO104 := n0_; have HB := n1_; clear n0_ n1_; clear hb ho30; obtain ⟨Ao31, co31, eo31⟩ := Kd.R_slice HO104.out; subst eo31) | ((with_reducible refine gate_callee (f := 21) rfl ?_); refine goesL_ (some 12) rfl rfl Tryd.func21 (by kernel_rfl) rfl #[.slice Ao31 y102.length co31] rfl (by (try simp only [List.map_toArray, List.map_cons, List.map_nil]); first | done | rfl | (simp only [List.length_drop, List.length_take]; rfl)) ?_; (with_reducible refine (laws_svShort.calls k _ _ y102 false _ ?side1 ?side2 A3.out).mono ?_); (case side1 => repeat (first | exact (Kd.R_reads' HO104.out).2.2 | (with_reducible refine Kd.C_alloc ?_ _) | (with_reducible refine Kd.C_drewN ?_ _) | (with_reducible refine Kd.C_drew ?_))); (case side2 => exact (Kd.R_reads' HO104.out).2.1); rintro e w' ⟨rfl, ⟨nd, rfl⟩⟩; refine ⟨_, rfl, ?_⟩))
      go_ret
      exact ⟨by first | rfl | (simp [errW_none, errW_some] <;> rfl) | (simp [*, errW_none, errW_some] <;> rfl), by repeat (first | (with_reducible first | exact HB.out | apply below_alloc | apply pw_below_drewN | apply below_drew1) | exact HB.out)⟩

/-- THE ONE PURE STATEMENT of laws_FnSemverStrictReads: yours. -/
def laws_FnSemverStrictReads.Pure : Prop := ∀ (a0 : ByteArray), a0.size ≤ 140737488351232 → ∃ k, laws_FnSemverStrictReads.f k a0 = some true
theorem laws_FnSemverStrictReads.walk (P : laws_FnSemverStrictReads.Pure) (a0 : ByteArray) (w : World) (hG0 : HandS.GlS w) (w0 : a0.size ≤ 140737488351232) :
    Calls Tryd.prog 8 #[.string a0] w fun e w' => e = .returned (.bool true) ∧ Below w.heap.size w w' := by
  obtain ⟨k, h⟩ := P a0 w0
  refine (laws_FnSemverStrictReads.calls k a0 true w hG0 h).mono ?_
  rintro e w' ⟨rfl, hd⟩
  exact ⟨rfl, hd⟩

end Go.Proofs.YtalpehfjjidfhaaDoor.MV
