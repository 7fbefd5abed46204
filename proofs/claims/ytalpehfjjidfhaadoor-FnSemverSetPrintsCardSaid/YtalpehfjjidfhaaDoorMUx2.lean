-- Written by a program of this session (wip/tools/myprint.py over the kit's print).
import Derived.Test.YtalpehfjjidfhaaDoorMUx0
import Derived.Test.YtalpehfjjidfhaaDoorMUx1
namespace Go.Proofs.YtalpehfjjidfhaaDoor.MU
open Go.RowKit Go.Proofs.YtalpehfjjidfhaaDoorW.PrintWords Go.Proofs.YtalpehfjjidfhaaDoorW.PrintLast Go.Proofs.YtalpehfjjidfhaaDoorW.PrintMore Go.Proofs.YtalpehfjjidfhaaDoor MT MS Hand
attribute [local go_sem] max2_int min2_int max_two min_two max_three min_three max_four min_four   -- for this text's walks alone
set_option linter.unusedVariables false
set_option linter.unusedSimpArgs false

attribute [local go_sem high] eqA29
/-! ### laws_FnSemverSetPrints: function 12 -/
/-- A version's block. -/
def V29 (x : S29) : Obj := .cells #[.int .u64 x.f0, .int .u64 x.f1, .int .u64 x.f2, .string x.f3, .string x.f4] 29 (0, 0)
/-- A version stored into a block. -/
def put29 (w : World) (n : Nat) (y : S29) : World := ((((w.setCell ⟨n, 0, none⟩ (.int .u64 y.f0)).setCell ⟨n, 1, none⟩ (.int .u64 y.f1)).setCell ⟨n, 2, none⟩ (.int .u64 y.f2)).setCell ⟨n, 3, none⟩ (.string y.f3)).setCell ⟨n, 4, none⟩ (.string y.f4)
theorem put29_at {w : World} {n : Nat} {y z : S29} (h : w.heap[n]? = some (V29 z)) : (put29 w n y).heap[n]? = some (V29 y) :=
  blk_set (blk_set (blk_set (blk_set (blk_set h 0 _) 1 _) 2 _) 3 _) 4 _
theorem put29_far {w : World} {n m : Nat} {y : S29} {o : Obj} (h : w.heap[m]? = some o) (hn : m ≠ n) : (put29 w n y).heap[m]? = some o := by
  unfold put29
  rw [Below.heap_setCell _ _ _ _ (by simpa using hn), Below.heap_setCell _ _ _ _ (by simpa using hn), Below.heap_setCell _ _ _ _ (by simpa using hn), Below.heap_setCell _ _ _ _ (by simpa using hn), Below.heap_setCell _ _ _ _ (by simpa using hn)]
  exact h
theorem put29_below {w w1 : World} {n : Nat} {y : S29} (hB : Below w.heap.size w w1) (hn : w.heap.size ≤ n) : Below w.heap.size w (put29 w1 n y) :=
  ((((hB.setCell hn _).setCell hn _).setCell hn _).setCell hn _).setCell hn _
/-- The good road: each of the calls gives the wanted version. -/
def GoodRoad (b0 b1 b2 : Int) (b3 b4 : ByteArray) (w0 w1 w2 : Int) (w3 w4 p q : ByteArray) : Prop :=
  HandS.VersionSetPre.f b0 b1 b2 b3 b4 p = some (w0, w1, w2, w3, b4, true) ∧ HandS.VersionSetMeta.f w0 w1 w2 w3 b4 q = some (w0, w1, w2, w3, w4, true) ∧
  HandS.VersionSetMeta.f b0 b1 b2 b3 b4 q = some (w0, w1, w2, b3, w4, true) ∧ HandS.VersionSetPre.f w0 w1 w2 b3 w4 p = some (w0, w1, w2, w3, w4, true) ∧
  HandS.VersionText.f w0 w1 w2 w3 w4 = some (MS.verT w0.toNat w1.toNat w2.toNat w3 w4) ∧ HandS.StrictT.f (MS.verT w0.toNat w1.toNat w2.toNat w3 w4) = some (w0, w1, w2, w3, w4, true)
noncomputable instance (b0 b1 b2 : Int) (b3 b4 : ByteArray) (w0 w1 w2 : Int) (w3 w4 p q : ByteArray) : Decidable (GoodRoad b0 b1 b2 b3 b4 w0 w1 w2 w3 w4 p q) := Classical.propDecidable _
noncomputable section
mutual
def laws_FnSemverSetPrints.j0 : Nat → ByteArray → ByteArray → Bool → Int → Int → Int → ByteArray → ByteArray → Option (Bool)
  | 0, _, _, _, _, _, _, _, _ => none
  | k + 1, x1, x2, x28, x102000, x102001, x102002, x102003, x102004 => if x28 = true then (some true) else ((MT.spec_Bare.f x102000 x102001 x102002 x102003 x102004).bind fun bt103 => ((MT.laws_svPre.f bt103.1 bt103.2.1 bt103.2.2.1 bt103.2.2.2.1 bt103.2.2.2.2 x1).bind fun bt108 => ((MT.laws_svMeta.f bt108.1 bt108.2.1 bt108.2.2.1 bt108.2.2.2.1 bt108.2.2.2.2 x2).bind fun bt113 => (if x1.toList = ([] : List UInt8) then (laws_FnSemverSetPrints.j1 k x1 x2 true bt103.1 bt103.2.1 bt103.2.2.1 bt103.2.2.2.1 bt103.2.2.2.2 bt113.1 bt113.2.1 bt113.2.2.1 bt113.2.2.2.1 bt113.2.2.2.2) else (if x2.toList = ([] : List UInt8) then (laws_FnSemverSetPrints.j1 k x1 x2 true bt103.1 bt103.2.1 bt103.2.2.1 bt103.2.2.2.1 bt103.2.2.2.2 bt113.1 bt113.2.1 bt113.2.2.1 bt113.2.2.2.1 bt113.2.2.2.2) else ((MT.laws_svGood.f k (([(⟨bt113.1, bt113.2.1, bt113.2.2.1, bt113.2.2.2.1, bt113.2.2.2.2⟩ : S29)] : List (S29)))).bind fun t122 => (if t122 = true then ((HandS.Fits.f bt113.1 bt113.2.1 bt113.2.2.1 bt113.2.2.2.1 bt113.2.2.2.2).bind fun t123 => (laws_FnSemverSetPrints.j1 k x1 x2 (!t123) bt103.1 bt103.2.1 bt103.2.2.1 bt103.2.2.2.1 bt103.2.2.2.2 bt113.1 bt113.2.1 bt113.2.2.1 bt113.2.2.2.1 bt113.2.2.2.2)) else (laws_FnSemverSetPrints.j1 k x1 x2 true bt103.1 bt103.2.1 bt103.2.2.1 bt103.2.2.2.1 bt103.2.2.2.2 bt113.1 bt113.2.1 bt113.2.2.1 bt113.2.2.2.1 bt113.2.2.2.2))))))))
def laws_FnSemverSetPrints.j1 : Nat → ByteArray → ByteArray → Bool → Int → Int → Int → ByteArray → ByteArray → Int → Int → Int → ByteArray → ByteArray → Option (Bool)
  | 0, _, _, _, _, _, _, _, _, _, _, _, _, _ => none
  | k + 1, x1, x2, x52, x102000, x102001, x102002, x102003, x102004, x119000, x119001, x119002, x119003, x119004 => if x52 = true then (some true) else (if GoodRoad x102000 x102001 x102002 x102003 x102004 x119000 x119001 x119002 x119003 x119004 x1 x2 then some true else none)
end
def laws_FnSemverSetPrints.f (k : Nat) (a0_0 : Int) (a0_1 : Int) (a0_2 : Int) (a0_3 : ByteArray) (a0_4 : ByteArray) (a1 : ByteArray) (a2 : ByteArray) : Option (Bool) := (MT.laws_zzFits14.f a0_0 a0_1 a0_2 a0_3 a0_4).bind fun t102 => (if t102 = true then (if (a1.size : Int) > 2147483647 then (laws_FnSemverSetPrints.j0 k a1 a2 true a0_0 a0_1 a0_2 a0_3 a0_4) else (laws_FnSemverSetPrints.j0 k a1 a2 (decide ((a2.size : Int) > 2147483647)) a0_0 a0_1 a0_2 a0_3 a0_4)) else (laws_FnSemverSetPrints.j0 k a1 a2 true a0_0 a0_1 a0_2 a0_3 a0_4))
theorem laws_FnSemverSetPrints.mono_l : ∀ k, (∀ y0 y1 y2 y3 y4 y5 y6 y7, LeO (laws_FnSemverSetPrints.j0 k y0 y1 y2 y3 y4 y5 y6 y7) (laws_FnSemverSetPrints.j0 (k + 1) y0 y1 y2 y3 y4 y5 y6 y7)) ∧ (∀ y0 y1 y2 y3 y4 y5 y6 y7 y8 y9 y10 y11 y12, LeO (laws_FnSemverSetPrints.j1 k y0 y1 y2 y3 y4 y5 y6 y7 y8 y9 y10 y11 y12) (laws_FnSemverSetPrints.j1 (k + 1) y0 y1 y2 y3 y4 y5 y6 y7 y8 y9 y10 y11 y12))
  | 0 => ⟨fun _ _ _ _ _ _ _ _ r h => by simp [laws_FnSemverSetPrints.j0] at h, fun _ _ _ _ _ _ _ _ _ _ _ _ _ r h => by simp [laws_FnSemverSetPrints.j1] at h⟩
  | k + 1 => by
    obtain ⟨ih0, ih1⟩ := laws_FnSemverSetPrints.mono_l k
    refine ⟨?_, ?_⟩
    · intro y0 y1 y2 y3 y4 y5 y6 y7
      unfold laws_FnSemverSetPrints.j0
      repeat' first
      | (with_reducible exact ih0 _ _ _ _ _ _ _ _)
      | (with_reducible exact ih1 _ _ _ _ _ _ _ _ _ _ _ _ _)
      | (with_reducible exact MT.laws_svGood.mono _ _)
      | (with_reducible exact LeO.refl _)
      | (with_reducible exact LeO.none _)
      | (with_reducible refine LeO.ite ?_ ?_)
      | (with_reducible refine LeO.bind ?_ (fun _ => ?_))
      | exact ih0 _ _ _ _ _ _ _ _
      | exact ih1 _ _ _ _ _ _ _ _ _ _ _ _ _
      | exact MT.laws_svGood.mono _ _
      | exact LeO.none _
      | refine LeO.ite ?_ ?_
      | refine LeO.bind ?_ (fun _ => ?_)
    · intro y0 y1 y2 y3 y4 y5 y6 y7 y8 y9 y10 y11 y12
      unfold laws_FnSemverSetPrints.j1
      repeat' first
      | (with_reducible exact ih0 _ _ _ _ _ _ _ _)
      | (with_reducible exact ih1 _ _ _ _ _ _ _ _ _ _ _ _ _)
      | (with_reducible exact MT.laws_svGood.mono _ _)
      | (with_reducible exact LeO.refl _)
      | (with_reducible exact LeO.none _)
      | (with_reducible refine LeO.ite ?_ ?_)
      | (with_reducible refine LeO.bind ?_ (fun _ => ?_))
      | exact ih0 _ _ _ _ _ _ _ _
      | exact ih1 _ _ _ _ _ _ _ _ _ _ _ _ _
      | exact MT.laws_svGood.mono _ _
      | exact LeO.none _
      | refine LeO.ite ?_ ?_
      | refine LeO.bind ?_ (fun _ => ?_)
theorem laws_FnSemverSetPrints.mono : ∀ a0 a1 a2 a3 a4 a5 a6 k, LeO (laws_FnSemverSetPrints.f k a0 a1 a2 a3 a4 a5 a6) (laws_FnSemverSetPrints.f (k + 1) a0 a1 a2 a3 a4 a5 a6) := by
  intro a0 a1 a2 a3 a4 a5 a6 k
  obtain ⟨ih0, ih1⟩ := laws_FnSemverSetPrints.mono_l k
  unfold laws_FnSemverSetPrints.f
  repeat' first
      | (with_reducible exact ih0 _ _ _ _ _ _ _ _)
      | (with_reducible exact ih1 _ _ _ _ _ _ _ _ _ _ _ _ _)
      | (with_reducible exact MT.laws_svGood.mono _ _)
      | (with_reducible exact LeO.refl _)
      | (with_reducible exact LeO.none _)
      | (with_reducible refine LeO.ite ?_ ?_)
      | (with_reducible refine LeO.bind ?_ (fun _ => ?_))
      | exact ih0 _ _ _ _ _ _ _ _
      | exact ih1 _ _ _ _ _ _ _ _ _ _ _ _ _
      | exact MT.laws_svGood.mono _ _
      | exact LeO.none _
      | refine LeO.ite ?_ ?_
      | refine LeO.bind ?_ (fun _ => ?_)
set_option maxHeartbeats 80000000 in
set_option maxRecDepth 100000 in
theorem laws_FnSemverSetPrints.calls (k : Nat) (a0_0 : Int) (a0_1 : Int) (a0_2 : Int) (a0_3 : ByteArray) (a0_4 : ByteArray) (a1 : ByteArray) (a2 : ByteArray) (r : Bool) (w : World) (hG0 : HandS.GlT w) (h : laws_FnSemverSetPrints.f k a0_0 a0_1 a0_2 a0_3 a0_4 a1 a2 = some r) :
    Calls Tryd.prog 12 #[.agg #[.int .u64 a0_0, .int .u64 a0_1, .int .u64 a0_2, .string a0_3, .string a0_4], .string a1, .string a2] w fun e w' => e = .returned (.bool r) ∧ Below w.heap.size w w' := by
  have HG := Aside0.mk hG0
  clear hG0
  have hu29 := Tryd.underlying29
  have HB := Aside0.mk (Below.refl w.heap.size w)
  have H : ((MT.laws_zzFits14.f a0_0 a0_1 a0_2 a0_3 a0_4).bind fun t102 => (if t102 = true then (if (a1.size : Int) > 2147483647 then (laws_FnSemverSetPrints.j0 k a1 a2 true a0_0 a0_1 a0_2 a0_3 a0_4) else (laws_FnSemverSetPrints.j0 k a1 a2 (decide ((a2.size : Int) > 2147483647)) a0_0 a0_1 a0_2 a0_3 a0_4)) else (laws_FnSemverSetPrints.j0 k a1 a2 true a0_0 a0_1 a0_2 a0_3 a0_4))) = some r := h
  clear h
  have HC4 := Aside0.mk H
  clear H
  go_enter Tryd.func12, Tryd.ntmps12
  go_upto_region 1 with (first | ((with_reducible refine gate_dst (N := 3) rfl ?_); (try (refine gate_guard (by rfl) ?_; dsimp only)); refine box_event ?hg (N := 3) ?hd (cs := #[.int .u64 a0_0, .int .u64 a0_1, .int .u64 a0_2, .string a0_3, .string a0_4]) (t := 29) ?hr ?_; (case hd => rfl); (case hg => rfl); (case hr => first | (go_simp; done) | (go_simp; rfl)); intro gb101 hg w5 hbox hb; have n0_ := Aside0.mk (below_step (by repeat (first | (with_reducible first | exact HB.out | apply below_alloc | apply pw_below_drewN | apply below_drew1) | exact HB.out)) hb); have n1_ := Aside0.mk (hbox); have n2_ := Aside0.mk ((by rw [hg]; exact (below_size (by repeat (first | (with_reducible first | exact HB.out | apply below_alloc | apply pw_below_drewN | apply below_drew1) | exact HB.out))) : w.heap.size ≤ gb101)); have n3_ := Aside0.mk ((by rw [hg]; exact (below_size (by repeat (first | (with_reducible first | exact HB.out | apply below_alloc | apply pw_below_drewN | apply below_drew1) | exact HB.out))) : w.heap.size ≤ gb101)); clear HB; have HB := n0_; have BK101 := n1_; have GW101 := n2_; have GE101 := n3_; clear n0_ n1_ n2_ n3_; clear hb hbox hg))
  (try simp only [Act.put, List.setIfInBounds_toArray, List.set_cons_zero, List.set_cons_succ])
  go_cut [28] (fun v28 wc => ∃ (kq : Nat) (x28_3 : Bool), v28 = .bool x28_3 ∧ Aside0 (laws_FnSemverSetPrints.j0 kq a1 a2 x28_3 a0_0 a0_1 a0_2 a0_3 a0_4 = some r) ∧ Aside0 (kq ≤ k) ∧ Aside0 (wc.heap[gb101]? = some (.cells #[.int .u64 a0_0, .int .u64 a0_1, .int .u64 a0_2, .string a0_3, .string a0_4] 29 (0, 0))) ∧ Aside0 (Below w.heap.size w wc))
  case first =>
    have H := HC4.out
    clear HC4
    replace H := Option.bind_eq_some_iff.mp H
    obtain ⟨t102, A60, H⟩ := H
    replace H : (if t102 = true then (if (a1.size : Int) > 2147483647 then (laws_FnSemverSetPrints.j0 k a1 a2 true a0_0 a0_1 a0_2 a0_3 a0_4) else (laws_FnSemverSetPrints.j0 k a1 a2 (decide ((a2.size : Int) > 2147483647)) a0_0 a0_1 a0_2 a0_3 a0_4)) else (laws_FnSemverSetPrints.j0 k a1 a2 true a0_0 a0_1 a0_2 a0_3 a0_4)) = some r := H
    have A6 := Aside0.mk A60
    clear A60
    by_cases c7 : t102 = true
    · subst c7
      have H1 : (if (a1.size : Int) > 2147483647 then (laws_FnSemverSetPrints.j0 k a1 a2 true a0_0 a0_1 a0_2 a0_3 a0_4) else (laws_FnSemverSetPrints.j0 k a1 a2 (decide ((a2.size : Int) > 2147483647)) a0_0 a0_1 a0_2 a0_3 a0_4)) = some r := by rw [if_pos rfl] at H; exact H
      clear H
      have H := H1
      clear H1
      by_cases c8 : (a1.size : Int) > 2147483647
      · rw [if_pos c8] at H
        have c8b0 : decide (2147483647 < (a1.size : Int)) = true := decide_eq_true c8
        have c8b1 : decide (2147483647 < a1.size) = true := decide_eq_true (by omega)
        clear c8
        (first | rw [c8b0] | (simp only [i64_w, i32_w]; rw [c8b0]) | skip)
        have H' := Aside0.mk H
        clear H
        have hcz9_0 : w5.cell? ⟨gb101, 0, none⟩ = some (.int .u64 a0_0) := (blk_cell BK101.out 0).trans rfl
        have hcz9_1 : w5.cell? ⟨gb101, 1, none⟩ = some (.int .u64 a0_1) := (blk_cell BK101.out 1).trans rfl
        have hcz9_2 : w5.cell? ⟨gb101, 2, none⟩ = some (.int .u64 a0_2) := (blk_cell BK101.out 2).trans rfl
        have hcz9_3 : w5.cell? ⟨gb101, 3, none⟩ = some (.string a0_3) := (blk_cell BK101.out 3).trans rfl
        have hcz9_4 : w5.cell? ⟨gb101, 4, none⟩ = some (.string a0_4) := (blk_cell BK101.out 4).trans rfl
        have hfz9_0 := blk_frozen BK101.out 0
        have hfz9_1 := blk_frozen BK101.out 1
        have hfz9_2 := blk_frozen BK101.out 2
        have hfz9_3 := blk_frozen BK101.out 3
        have hfz9_4 := blk_frozen BK101.out 4
        go_wp2_with (first | ((with_reducible refine gate_callee (f := 25) rfl ?_); refine goesL_ (some 17) rfl rfl Tryd.func25 (by kernel_rfl) rfl #[.agg #[.int .u64 a0_0, .int .u64 a0_1, .int .u64 a0_2, .string a0_3, .string a0_4]] rfl (by (try simp only [List.map_toArray, List.map_cons, List.map_nil]); first | done | rfl | (simp only [List.length_drop, List.length_take]; rfl)) ?_; (with_reducible refine (MT.laws_zzFits14.calls a0_0 a0_1 a0_2 a0_3 a0_4 true _ A6.out).mono ?_); rintro e w10 ⟨rfl, hb⟩; refine ⟨_, rfl, ?_⟩; have n0_ := Aside0.mk (blk_below (g := gb101) (o := .cells #[.int .u64 a0_0, .int .u64 a0_1, .int .u64 a0_2, .string a0_3, .string a0_4] 29 (0, 0)) (by (with_reducible repeat (first | refine blk_drewN ?_ _ | refine blk_drew ?_ | refine blk_alloc ?_ _)); exact BK101.out) hb); have n1_ := Aside0.mk (below_step (by repeat (first | (with_reducible first | exact HB.out | apply below_alloc | apply pw_below_drewN | apply below_drew1 | refine below_set ?_ GE101.out) | exact HB.out)) hb); clear BK101; clear HB; have BK101 := n0_; have HB := n1_; clear n0_ n1_; (try clear hb); (try clear hb2); (try clear hk); (try clear hi)))
        go_meet
        case rel => exact ⟨_, (true), (by first | rfl | (simp; done) | (simp [*]; done)), H', ⟨by first | omega | exact Nat.le_refl _⟩, ⟨by (with_reducible repeat (first | refine blk_drewN ?_ _ | refine blk_drew ?_ | refine blk_alloc ?_ _)); exact BK101.out⟩, ⟨by repeat (first | (with_reducible first | exact HB.out | apply below_alloc | apply pw_below_drewN | apply below_drew1 | refine below_set ?_ GE101.out) | exact HB.out)⟩⟩
      · rw [if_neg c8] at H
        have c8b0 : decide (2147483647 < (a1.size : Int)) = false := decide_eq_false c8
        have c8b1 : decide (2147483647 < a1.size) = false := decide_eq_false (by omega)
        clear c8
        (first | rw [c8b0] | (simp only [i64_w, i32_w]; rw [c8b0]) | skip)
        have H' := Aside0.mk H
        clear H
        have hcz11_0 : w5.cell? ⟨gb101, 0, none⟩ = some (.int .u64 a0_0) := (blk_cell BK101.out 0).trans rfl
        have hcz11_1 : w5.cell? ⟨gb101, 1, none⟩ = some (.int .u64 a0_1) := (blk_cell BK101.out 1).trans rfl
        have hcz11_2 : w5.cell? ⟨gb101, 2, none⟩ = some (.int .u64 a0_2) := (blk_cell BK101.out 2).trans rfl
        have hcz11_3 : w5.cell? ⟨gb101, 3, none⟩ = some (.string a0_3) := (blk_cell BK101.out 3).trans rfl
        have hcz11_4 : w5.cell? ⟨gb101, 4, none⟩ = some (.string a0_4) := (blk_cell BK101.out 4).trans rfl
        have hfz11_0 := blk_frozen BK101.out 0
        have hfz11_1 := blk_frozen BK101.out 1
        have hfz11_2 := blk_frozen BK101.out 2
        have hfz11_3 := blk_frozen BK101.out 3
        have hfz11_4 := blk_frozen BK101.out 4
        go_wp2_with (first | ((with_reducible refine gate_callee (f := 25) rfl ?_); refine goesL_ (some 17) rfl rfl Tryd.func25 (by kernel_rfl) rfl #[.agg #[.int .u64 a0_0, .int .u64 a0_1, .int .u64 a0_2, .string a0_3, .string a0_4]] rfl (by (try simp only [List.map_toArray, List.map_cons, List.map_nil]); first | done | rfl | (simp only [List.length_drop, List.length_take]; rfl)) ?_; (with_reducible refine (MT.laws_zzFits14.calls a0_0 a0_1 a0_2 a0_3 a0_4 true _ A6.out).mono ?_); rintro e w12 ⟨rfl, hb⟩; refine ⟨_, rfl, ?_⟩; have n0_ := Aside0.mk (blk_below (g := gb101) (o := .cells #[.int .u64 a0_0, .int .u64 a0_1, .int .u64 a0_2, .string a0_3, .string a0_4] 29 (0, 0)) (by (with_reducible repeat (first | refine blk_drewN ?_ _ | refine blk_drew ?_ | refine blk_alloc ?_ _)); exact BK101.out) hb); have n1_ := Aside0.mk (below_step (by repeat (first | (with_reducible first | exact HB.out | apply below_alloc | apply pw_below_drewN | apply below_drew1 | refine below_set ?_ GE101.out) | exact HB.out)) hb); clear BK101; clear HB; have BK101 := n0_; have HB := n1_; clear n0_ n1_; (try clear hb); (try clear hb2); (try clear hk); (try clear hi)))
        go_meet
        case rel => exact ⟨_, (decide ((a2.size : Int) > 2147483647)), (by first | rfl | (simp; done) | (simp [*]; done)), H', ⟨by first | omega | exact Nat.le_refl _⟩, ⟨by (with_reducible repeat (first | refine blk_drewN ?_ _ | refine blk_drew ?_ | refine blk_alloc ?_ _)); exact BK101.out⟩, ⟨by repeat (first | (with_reducible first | exact HB.out | apply below_alloc | apply pw_below_drewN | apply below_drew1 | refine below_set ?_ GE101.out) | exact HB.out)⟩⟩
    · replace c7 := Bool.eq_false_iff.mpr c7
      subst c7
      have H1 : (laws_FnSemverSetPrints.j0 k a1 a2 true a0_0 a0_1 a0_2 a0_3 a0_4) = some r := by rw [if_neg (show ¬ (false = true) by decide)] at H; exact H
      clear H
      have H := H1
      clear H1
      have H' := Aside0.mk H
      clear H
      have hcz13_0 : w5.cell? ⟨gb101, 0, none⟩ = some (.int .u64 a0_0) := (blk_cell BK101.out 0).trans rfl
      have hcz13_1 : w5.cell? ⟨gb101, 1, none⟩ = some (.int .u64 a0_1) := (blk_cell BK101.out 1).trans rfl
      have hcz13_2 : w5.cell? ⟨gb101, 2, none⟩ = some (.int .u64 a0_2) := (blk_cell BK101.out 2).trans rfl
      have hcz13_3 : w5.cell? ⟨gb101, 3, none⟩ = some (.string a0_3) := (blk_cell BK101.out 3).trans rfl
      have hcz13_4 : w5.cell? ⟨gb101, 4, none⟩ = some (.string a0_4) := (blk_cell BK101.out 4).trans rfl
      have hfz13_0 := blk_frozen BK101.out 0
      have hfz13_1 := blk_frozen BK101.out 1
      have hfz13_2 := blk_frozen BK101.out 2
      have hfz13_3 := blk_frozen BK101.out 3
      have hfz13_4 := blk_frozen BK101.out 4
      go_wp2_with (first | ((with_reducible refine gate_callee (f := 25) rfl ?_); refine goesL_ (some 17) rfl rfl Tryd.func25 (by kernel_rfl) rfl #[.agg #[.int .u64 a0_0, .int .u64 a0_1, .int .u64 a0_2, .string a0_3, .string a0_4]] rfl (by (try simp only [List.map_toArray, List.map_cons, List.map_nil]); first | done | rfl | (simp only [List.length_drop, List.length_take]; rfl)) ?_; (with_reducible refine (MT.laws_zzFits14.calls a0_0 a0_1 a0_2 a0_3 a0_4 false _ A6.out).mono ?_); rintro e w14 ⟨rfl, hb⟩; refine ⟨_, rfl, ?_⟩; have n0_ := Aside0.mk (blk_below (g := gb101) (o := .cells #[.int .u64 a0_0, .int .u64 a0_1, .int .u64 a0_2, .string a0_3, .string a0_4] 29 (0, 0)) (by (with_reducible repeat (first | refine blk_drewN ?_ _ | refine blk_drew ?_ | refine blk_alloc ?_ _)); exact BK101.out) hb); have n1_ := Aside0.mk (below_step (by repeat (first | (with_reducible first | exact HB.out | apply below_alloc | apply pw_below_drewN | apply below_drew1 | refine below_set ?_ GE101.out) | exact HB.out)) hb); clear BK101; clear HB; have BK101 := n0_; have HB := n1_; clear n0_ n1_; (try clear hb); (try clear hb2); (try clear hk); (try clear hi)))
      go_meet
      case rel => exact ⟨_, (true), (by first | rfl | (simp; done) | (simp [*]; done)), H', ⟨by first | omega | exact Nat.le_refl _⟩, ⟨by (with_reducible repeat (first | refine blk_drewN ?_ _ | refine blk_drew ?_ | refine blk_alloc ?_ _)); exact BK101.out⟩, ⟨by repeat (first | (with_reducible first | exact HB.out | apply below_alloc | apply pw_below_drewN | apply below_drew1 | refine below_set ?_ GE101.out) | exact HB.out)⟩⟩
  case rest =>
    clear HC4
    try clear c1
    try clear c2
    try clear p2
    try clear c7
    try clear c8
    try clear c8b0
    try clear c8b1
    try clear c12
    try clear hcz11_0
    try clear hcz11_1
    try clear hcz11_2
    try clear hcz11_3
    try clear hcz11_4
    try clear hcz13_0
    try clear hcz13_1
    try clear hcz13_2
    try clear hcz13_3
    try clear hcz13_4
    try clear hcz9_0
    try clear hcz9_1
    try clear hcz9_2
    try clear hcz9_3
    try clear hcz9_4
    try clear hfz11_0
    try clear hfz11_1
    try clear hfz11_2
    try clear hfz11_3
    try clear hfz11_4
    try clear hfz13_0
    try clear hfz13_1
    try clear hfz13_2
    try clear hfz13_3
    try clear hfz13_4
    try clear hfz9_0
    try clear hfz9_1
    try clear hfz9_2
    try clear hfz9_3
    try clear hfz9_4
    obtain ⟨kq, x28_3, rfl, HA, HJ3, BK101, HB⟩ := hcut
    cases kq with
    | zero => exact absurd HA.out (by simp [laws_FnSemverSetPrints.j0])
    | succ kj3 =>
      have H := HA.out
      clear HA
      simp only [laws_FnSemverSetPrints.j0] at H
      by_cases c15 : x28_3 = true
      · subst c15
        have H1 : (some true) = some r := by rw [if_pos rfl] at H; exact H
        clear H
        have H := H1
        clear H1
        obtain rfl := Option.some.inj H
        go_wp2
        go_ret
        exact ⟨by first | rfl | (simp [errW_none, errW_some] <;> rfl) | (simp [*, errW_none, errW_some] <;> rfl), by repeat (first | (with_reducible first | exact HB.out | apply below_alloc | apply pw_below_drewN | apply below_drew1 | refine below_set ?_ GE101.out) | exact HB.out)⟩
      · replace c15 := Bool.eq_false_iff.mpr c15
        subst c15
        have H1 : ((MT.spec_Bare.f a0_0 a0_1 a0_2 a0_3 a0_4).bind fun bt103 => ((MT.laws_svPre.f bt103.1 bt103.2.1 bt103.2.2.1 bt103.2.2.2.1 bt103.2.2.2.2 a1).bind fun bt108 => ((MT.laws_svMeta.f bt108.1 bt108.2.1 bt108.2.2.1 bt108.2.2.2.1 bt108.2.2.2.2 a2).bind fun bt113 => (if a1.toList = ([] : List UInt8) then (laws_FnSemverSetPrints.j1 kj3 a1 a2 true bt103.1 bt103.2.1 bt103.2.2.1 bt103.2.2.2.1 bt103.2.2.2.2 bt113.1 bt113.2.1 bt113.2.2.1 bt113.2.2.2.1 bt113.2.2.2.2) else (if a2.toList = ([] : List UInt8) then (laws_FnSemverSetPrints.j1 kj3 a1 a2 true bt103.1 bt103.2.1 bt103.2.2.1 bt103.2.2.2.1 bt103.2.2.2.2 bt113.1 bt113.2.1 bt113.2.2.1 bt113.2.2.2.1 bt113.2.2.2.2) else ((MT.laws_svGood.f kj3 (([(⟨bt113.1, bt113.2.1, bt113.2.2.1, bt113.2.2.2.1, bt113.2.2.2.2⟩ : S29)] : List (S29)))).bind fun t122 => (if t122 = true then ((HandS.Fits.f bt113.1 bt113.2.1 bt113.2.2.1 bt113.2.2.2.1 bt113.2.2.2.2).bind fun t123 => (laws_FnSemverSetPrints.j1 kj3 a1 a2 (!t123) bt103.1 bt103.2.1 bt103.2.2.1 bt103.2.2.2.1 bt103.2.2.2.2 bt113.1 bt113.2.1 bt113.2.2.1 bt113.2.2.2.1 bt113.2.2.2.2)) else (laws_FnSemverSetPrints.j1 kj3 a1 a2 true bt103.1 bt103.2.1 bt103.2.2.1 bt103.2.2.2.1 bt103.2.2.2.2 bt113.1 bt113.2.1 bt113.2.2.1 bt113.2.2.2.1 bt113.2.2.2.2)))))))) = some r := by rw [if_neg (show ¬ (false = true) by decide)] at H; exact H
        clear H
        have H := H1
        clear H1
        replace H := Option.bind_eq_some_iff.mp H
        obtain ⟨⟨t103, t104, t105, t106, t107⟩, A160, H⟩ := H
        replace H : ((MT.laws_svPre.f t103 t104 t105 t106 t107 a1).bind fun bt108 => ((MT.laws_svMeta.f bt108.1 bt108.2.1 bt108.2.2.1 bt108.2.2.2.1 bt108.2.2.2.2 a2).bind fun bt113 => (if a1.toList = ([] : List UInt8) then (laws_FnSemverSetPrints.j1 kj3 a1 a2 true t103 t104 t105 t106 t107 bt113.1 bt113.2.1 bt113.2.2.1 bt113.2.2.2.1 bt113.2.2.2.2) else (if a2.toList = ([] : List UInt8) then (laws_FnSemverSetPrints.j1 kj3 a1 a2 true t103 t104 t105 t106 t107 bt113.1 bt113.2.1 bt113.2.2.1 bt113.2.2.2.1 bt113.2.2.2.2) else ((MT.laws_svGood.f kj3 (([(⟨bt113.1, bt113.2.1, bt113.2.2.1, bt113.2.2.2.1, bt113.2.2.2.2⟩ : S29)] : List (S29)))).bind fun t122 => (if t122 = true then ((HandS.Fits.f bt113.1 bt113.2.1 bt113.2.2.1 bt113.2.2.2.1 bt113.2.2.2.2).bind fun t123 => (laws_FnSemverSetPrints.j1 kj3 a1 a2 (!t123) t103 t104 t105 t106 t107 bt113.1 bt113.2.1 bt113.2.2.1 bt113.2.2.2.1 bt113.2.2.2.2)) else (laws_FnSemverSetPrints.j1 kj3 a1 a2 true t103 t104 t105 t106 t107 bt113.1 bt113.2.1 bt113.2.2.1 bt113.2.2.2.1 bt113.2.2.2.2))))))) = some r := H
        have A16 := Aside0.mk A160
        clear A160
        replace H := Option.bind_eq_some_iff.mp H
        obtain ⟨⟨t108, t109, t110, t111, t112⟩, A170, H⟩ := H
        replace H : ((MT.laws_svMeta.f t108 t109 t110 t111 t112 a2).bind fun bt113 => (if a1.toList = ([] : List UInt8) then (laws_FnSemverSetPrints.j1 kj3 a1 a2 true t103 t104 t105 t106 t107 bt113.1 bt113.2.1 bt113.2.2.1 bt113.2.2.2.1 bt113.2.2.2.2) else (if a2.toList = ([] : List UInt8) then (laws_FnSemverSetPrints.j1 kj3 a1 a2 true t103 t104 t105 t106 t107 bt113.1 bt113.2.1 bt113.2.2.1 bt113.2.2.2.1 bt113.2.2.2.2) else ((MT.laws_svGood.f kj3 (([(⟨bt113.1, bt113.2.1, bt113.2.2.1, bt113.2.2.2.1, bt113.2.2.2.2⟩ : S29)] : List (S29)))).bind fun t122 => (if t122 = true then ((HandS.Fits.f bt113.1 bt113.2.1 bt113.2.2.1 bt113.2.2.2.1 bt113.2.2.2.2).bind fun t123 => (laws_FnSemverSetPrints.j1 kj3 a1 a2 (!t123) t103 t104 t105 t106 t107 bt113.1 bt113.2.1 bt113.2.2.1 bt113.2.2.2.1 bt113.2.2.2.2)) else (laws_FnSemverSetPrints.j1 kj3 a1 a2 true t103 t104 t105 t106 t107 bt113.1 bt113.2.1 bt113.2.2.1 bt113.2.2.2.1 bt113.2.2.2.2)))))) = some r := H
        have A17 := Aside0.mk A170
        clear A170
        replace H := Option.bind_eq_some_iff.mp H
        obtain ⟨⟨t113, t114, t115, t116, t117⟩, A180, H⟩ := H
        replace H : (if a1.toList = ([] : List UInt8) then (laws_FnSemverSetPrints.j1 kj3 a1 a2 true t103 t104 t105 t106 t107 t113 t114 t115 t116 t117) else (if a2.toList = ([] : List UInt8) then (laws_FnSemverSetPrints.j1 kj3 a1 a2 true t103 t104 t105 t106 t107 t113 t114 t115 t116 t117) else ((MT.laws_svGood.f kj3 (([(⟨t113, t114, t115, t116, t117⟩ : S29)] : List (S29)))).bind fun t122 => (if t122 = true then ((HandS.Fits.f t113 t114 t115 t116 t117).bind fun t123 => (laws_FnSemverSetPrints.j1 kj3 a1 a2 (!t123) t103 t104 t105 t106 t107 t113 t114 t115 t116 t117)) else (laws_FnSemverSetPrints.j1 kj3 a1 a2 true t103 t104 t105 t106 t107 t113 t114 t115 t116 t117))))) = some r := H
        have A18 := Aside0.mk A180
        clear A180
        have HC19 := Aside0.mk H
        clear H
        have hcz20_0 : wc.cell? ⟨gb101, 0, none⟩ = some (.int .u64 a0_0) := (blk_cell BK101.out 0).trans rfl
        have hcz20_1 : wc.cell? ⟨gb101, 1, none⟩ = some (.int .u64 a0_1) := (blk_cell BK101.out 1).trans rfl
        have hcz20_2 : wc.cell? ⟨gb101, 2, none⟩ = some (.int .u64 a0_2) := (blk_cell BK101.out 2).trans rfl
        have hcz20_3 : wc.cell? ⟨gb101, 3, none⟩ = some (.string a0_3) := (blk_cell BK101.out 3).trans rfl
        have hcz20_4 : wc.cell? ⟨gb101, 4, none⟩ = some (.string a0_4) := (blk_cell BK101.out 4).trans rfl
        have hfz20_0 := blk_frozen BK101.out 0
        have hfz20_1 := blk_frozen BK101.out 1
        have hfz20_2 := blk_frozen BK101.out 2
        have hfz20_3 := blk_frozen BK101.out 3
        have hfz20_4 := blk_frozen BK101.out 4
        go_upto_region 5 with (first | ((with_reducible refine gate_callee (f := 48) rfl ?_); refine goesL_ (some 30) rfl rfl Tryd.func48 (by kernel_rfl) rfl #[.agg #[.int .u64 a0_0, .int .u64 a0_1, .int .u64 a0_2, .string a0_3, .string a0_4]] rfl (by (try simp only [List.map_toArray, List.map_cons, List.map_nil]); first | done | rfl | (simp only [List.length_drop, List.length_take]; rfl)) ?_; (with_reducible refine (MT.spec_Bare.calls a0_0 a0_1 a0_2 a0_3 a0_4 t103 t104 t105 t106 t107 _ A16.out).mono ?_); rintro e w21 ⟨rfl, hb⟩; refine ⟨_, rfl, ?_⟩; have n0_ := Aside0.mk (blk_below (g := gb101) (o := .cells #[.int .u64 a0_0, .int .u64 a0_1, .int .u64 a0_2, .string a0_3, .string a0_4] 29 (0, 0)) (by (with_reducible repeat (first | refine blk_drewN ?_ _ | refine blk_drew ?_ | refine blk_alloc ?_ _)); exact BK101.out) hb); have n1_ := Aside0.mk (below_step (by repeat (first | (with_reducible first | exact HB.out | apply below_alloc | apply pw_below_drewN | apply below_drew1 | refine below_set ?_ GE101.out) | exact HB.out)) hb); clear BK101; clear HB; have BK101 := n0_; have HB := n1_; clear n0_ n1_; (try clear hb); (try clear hb2); (try clear hk); (try clear hi); have hcz22_0 : w21.cell? ⟨gb101, 0, none⟩ = some (.int .u64 a0_0) := (blk_cell BK101.out 0).trans rfl; have hcz22_1 : w21.cell? ⟨gb101, 1, none⟩ = some (.int .u64 a0_1) := (blk_cell BK101.out 1).trans rfl; have hcz22_2 : w21.cell? ⟨gb101, 2, none⟩ = some (.int .u64 a0_2) := (blk_cell BK101.out 2).trans rfl; have hcz22_3 : w21.cell? ⟨gb101, 3, none⟩ = some (.string a0_3) := (blk_cell BK101.out 3).trans rfl; have hcz22_4 : w21.cell? ⟨gb101, 4, none⟩ = some (.string a0_4) := (blk_cell BK101.out 4).trans rfl; have hfz22_0 := blk_frozen BK101.out 0; have hfz22_1 := blk_frozen BK101.out 1; have hfz22_2 := blk_frozen BK101.out 2; have hfz22_3 := blk_frozen BK101.out 3; have hfz22_4 := blk_frozen BK101.out 4) | ((with_reducible refine gate_callee (f := 29) rfl ?_); refine goesL_ (some 33) rfl rfl Tryd.func29 (by kernel_rfl) rfl #[.agg #[.int .u64 t103, .int .u64 t104, .int .u64 t105, .string t106, .string t107], .string a1] rfl (by (try simp only [List.map_toArray, List.map_cons, List.map_nil]); first | done | rfl | (simp only [List.length_drop, List.length_take]; rfl)) ?_; (with_reducible refine (MT.laws_svPre.calls t103 t104 t105 t106 t107 a1 t108 t109 t110 t111 t112 _ A17.out).mono ?_); rintro e w23 ⟨rfl, hb⟩; refine ⟨_, rfl, ?_⟩; have n0_ := Aside0.mk (blk_below (g := gb101) (o := .cells #[.int .u64 t103, .int .u64 t104, .int .u64 t105, .string t106, .string t107] 29 (0, 0)) (by (with_reducible repeat (first | refine blk_drewN ?_ _ | refine blk_drew ?_ | refine blk_alloc ?_ _)); refine blk_put (cs := #[.int .u64 t103, .int .u64 t104, .int .u64 t105, .string t106, .string a0_4]) ?_ 4 _ rfl; (with_reducible repeat (first | refine blk_drewN ?_ _ | refine blk_drew ?_ | refine blk_alloc ?_ _)); refine blk_put (cs := #[.int .u64 t103, .int .u64 t104, .int .u64 t105, .string a0_3, .string a0_4]) ?_ 3 _ rfl; (with_reducible repeat (first | refine blk_drewN ?_ _ | refine blk_drew ?_ | refine blk_alloc ?_ _)); refine blk_put (cs := #[.int .u64 t103, .int .u64 t104, .int .u64 a0_2, .string a0_3, .string a0_4]) ?_ 2 _ rfl; (with_reducible repeat (first | refine blk_drewN ?_ _ | refine blk_drew ?_ | refine blk_alloc ?_ _)); refine blk_put (cs := #[.int .u64 t103, .int .u64 a0_1, .int .u64 a0_2, .string a0_3, .string a0_4]) ?_ 1 _ rfl; (with_reducible repeat (first | refine blk_drewN ?_ _ | refine blk_drew ?_ | refine blk_alloc ?_ _)); refine blk_put (cs := #[.int .u64 a0_0, .int .u64 a0_1, .int .u64 a0_2, .string a0_3, .string a0_4]) ?_ 0 _ rfl; (with_reducible repeat (first | refine blk_drewN ?_ _ | refine blk_drew ?_ | refine blk_alloc ?_ _)); exact BK101.out) hb); have n1_ := Aside0.mk (below_step (by repeat (first | (with_reducible first | exact HB.out | apply below_alloc | apply pw_below_drewN | apply below_drew1 | refine below_set ?_ GE101.out) | exact HB.out)) hb); clear BK101; clear HB; have BK101 := n0_; have HB := n1_; clear n0_ n1_; (try clear hb); (try clear hb2); (try clear hk); (try clear hi)) | ((with_reducible refine gate_callee (f := 28) rfl ?_); refine goesL_ (some 35) rfl rfl Tryd.func28 (by kernel_rfl) rfl #[.agg #[.int .u64 t108, .int .u64 t109, .int .u64 t110, .string t111, .string t112], .string a2] rfl (by (try simp only [List.map_toArray, List.map_cons, List.map_nil]); first | done | rfl | (simp only [List.length_drop, List.length_take]; rfl)) ?_; (with_reducible refine (MT.laws_svMeta.calls t108 t109 t110 t111 t112 a2 t113 t114 t115 t116 t117 _ A18.out).mono ?_); rintro e w24 ⟨rfl, hb⟩; refine ⟨_, rfl, ?_⟩; have n0_ := Aside0.mk (blk_below (g := gb101) (o := .cells #[.int .u64 t103, .int .u64 t104, .int .u64 t105, .string t106, .string t107] 29 (0, 0)) (by (with_reducible repeat (first | refine blk_drewN ?_ _ | refine blk_drew ?_ | refine blk_alloc ?_ _)); exact BK101.out) hb); have n1_ := Aside0.mk (below_step (by repeat (first | (with_reducible first | exact HB.out | apply below_alloc | apply pw_below_drewN | apply below_drew1 | refine below_set ?_ GE101.out) | exact HB.out)) hb); clear BK101; clear HB; have BK101 := n0_; have HB := n1_; clear n0_ n1_; (try clear hb); (try clear hb2); (try clear hk); (try clear hi)) | ((with_reducible refine gate_dst (N := 7) rfl ?_); (try (refine gate_guard (by rfl) ?_; dsimp only)); refine box_event ?hg (N := 7) ?hd (cs := #[.int .u64 0, .int .u64 0, .int .u64 0, .string (⟨#[]⟩ : ByteArray), .string (⟨#[]⟩ : ByteArray)]) (t := 29) ?hr ?_; (case hd => rfl); (case hg => rfl); (case hr => first | (go_simp; done) | (go_simp; rfl)); intro gb118 hg w25 hbox hb; have n0_ := Aside0.mk (blk_below (g := gb101) (o := .cells #[.int .u64 t103, .int .u64 t104, .int .u64 t105, .string t106, .string t107] 29 (0, 0)) (by (with_reducible repeat (first | refine blk_drewN ?_ _ | refine blk_drew ?_ | refine blk_alloc ?_ _)); exact BK101.out) hb); have n1_ := Aside0.mk (below_step (by repeat (first | (with_reducible first | exact HB.out | apply below_alloc | apply pw_below_drewN | apply below_drew1 | refine below_set ?_ GE101.out) | exact HB.out)) hb); have n2_ := Aside0.mk (hbox); have n3_ := Aside0.mk ((by rw [hg]; exact (below_size (by repeat (first | (with_reducible first | exact HB.out | apply below_alloc | apply pw_below_drewN | apply below_drew1 | refine below_set ?_ GE101.out) | exact HB.out))) : w.heap.size ≤ gb118)); have n4_ := Aside0.mk ((by rw [hg]; exact (below_size (by repeat (first | (with_reducible first | exact HB.out | apply below_alloc | apply pw_below_drewN | apply below_drew1 | refine below_set ?_ GE101.out) | exact HB.out))) : w.heap.size ≤ gb118)); have n5_ := Aside0.mk ((by rw [hg]; exact Nat.ne_of_lt (blk_lt (g := gb101) (o := .cells #[.int .u64 t103, .int .u64 t104, .int .u64 t105, .string t106, .string t107] 29 (0, 0)) (by (with_reducible repeat (first | refine blk_drewN ?_ _ | refine blk_drew ?_ | refine blk_alloc ?_ _)); exact BK101.out)) : gb101 ≠ gb118)); have n6_ := Aside0.mk ((by rw [hg]; exact Nat.ne_of_gt (blk_lt (g := gb101) (o := .cells #[.int .u64 t103, .int .u64 t104, .int .u64 t105, .string t106, .string t107] 29 (0, 0)) (by (with_reducible repeat (first | refine blk_drewN ?_ _ | refine blk_drew ?_ | refine blk_alloc ?_ _)); exact BK101.out)) : gb118 ≠ gb101)); clear BK101; clear HB; have BK101 := n0_; have HB := n1_; have BK118 := n2_; have GW118 := n3_; have GE118 := n4_; have NB101_118 := n5_; have NB118_101 := n6_; clear n0_ n1_ n2_ n3_ n4_ n5_ n6_; clear hb hbox hg; have hnb26 := NB118_101.out; have hnc26 := NB101_118.out; have hcz27_0 : w25.cell? ⟨gb118, 0, none⟩ = some (.int .u64 0) := (blk_cell BK118.out 0).trans rfl; have hcz27_1 : w25.cell? ⟨gb118, 1, none⟩ = some (.int .u64 0) := (blk_cell BK118.out 1).trans rfl; have hcz27_2 : w25.cell? ⟨gb118, 2, none⟩ = some (.int .u64 0) := (blk_cell BK118.out 2).trans rfl; have hcz27_3 : w25.cell? ⟨gb118, 3, none⟩ = some (.string (⟨#[]⟩ : ByteArray)) := (blk_cell BK118.out 3).trans rfl; have hcz27_4 : w25.cell? ⟨gb118, 4, none⟩ = some (.string (⟨#[]⟩ : ByteArray)) := (blk_cell BK118.out 4).trans rfl; have hfz27_0 := blk_frozen BK118.out 0; have hfz27_1 := blk_frozen BK118.out 1; have hfz27_2 := blk_frozen BK118.out 2; have hfz27_3 := blk_frozen BK118.out 3; have hfz27_4 := blk_frozen BK118.out 4))
        (try simp only [Act.put, List.setIfInBounds_toArray, List.set_cons_zero, List.set_cons_succ])
        go_cut [52] (fun v52 wc => ∃ (kq : Nat) (x52_18 : Bool), v52 = .bool x52_18 ∧ Aside0 (laws_FnSemverSetPrints.j1 kq a1 a2 x52_18 t103 t104 t105 t106 t107 t113 t114 t115 t116 t117 = some r) ∧ Aside0 (kq ≤ kj3) ∧ Aside0 (wc.heap[gb101]? = some (.cells #[.int .u64 t103, .int .u64 t104, .int .u64 t105, .string t106, .string t107] 29 (0, 0))) ∧ Aside0 (wc.heap[gb118]? = some (.cells #[.int .u64 t113, .int .u64 t114, .int .u64 t115, .string t116, .string t117] 29 (0, 0))) ∧ Aside0 (Below w.heap.size w wc))
        case first =>
          have H := HC19.out
          clear HC19
          by_cases c28 : a1.toList = ([] : List UInt8)
          · rw [if_pos c28] at H
            have c28b0 : (a1.toList == ([] : List UInt8)) = true := beq_iff_eq.mpr c28
            have c28b1 : (a1.toList != ([] : List UInt8)) = false := bne_eq_false_iff_eq.mpr c28
            clear c28
            (first | rw [c28b0] | (simp only [i64_w, i32_w]; rw [c28b0]) | skip)
            have H' := Aside0.mk H
            clear H
            go_wp2
            go_meet
            case rel => exact ⟨_, (true), (by first | rfl | (simp; done) | (simp [*]; done)), H', ⟨by have := HJ3.out; first | omega | exact Nat.le_refl _⟩, ⟨by (with_reducible repeat (first | refine blk_drewN ?_ _ | refine blk_drew ?_ | refine blk_alloc ?_ _)); refine blk_far ?_ NB101_118.out _; (with_reducible repeat (first | refine blk_drewN ?_ _ | refine blk_drew ?_ | refine blk_alloc ?_ _)); refine blk_far ?_ NB101_118.out _; (with_reducible repeat (first | refine blk_drewN ?_ _ | refine blk_drew ?_ | refine blk_alloc ?_ _)); refine blk_far ?_ NB101_118.out _; (with_reducible repeat (first | refine blk_drewN ?_ _ | refine blk_drew ?_ | refine blk_alloc ?_ _)); refine blk_far ?_ NB101_118.out _; (with_reducible repeat (first | refine blk_drewN ?_ _ | refine blk_drew ?_ | refine blk_alloc ?_ _)); refine blk_far ?_ NB101_118.out _; (with_reducible repeat (first | refine blk_drewN ?_ _ | refine blk_drew ?_ | refine blk_alloc ?_ _)); exact BK101.out⟩, ⟨by (with_reducible repeat (first | refine blk_drewN ?_ _ | refine blk_drew ?_ | refine blk_alloc ?_ _)); refine blk_put (cs := #[.int .u64 t113, .int .u64 t114, .int .u64 t115, .string t116, .string (⟨#[]⟩ : ByteArray)]) ?_ 4 _ rfl; (with_reducible repeat (first | refine blk_drewN ?_ _ | refine blk_drew ?_ | refine blk_alloc ?_ _)); refine blk_put (cs := #[.int .u64 t113, .int .u64 t114, .int .u64 t115, .string (⟨#[]⟩ : ByteArray), .string (⟨#[]⟩ : ByteArray)]) ?_ 3 _ rfl; (with_reducible repeat (first | refine blk_drewN ?_ _ | refine blk_drew ?_ | refine blk_alloc ?_ _)); refine blk_put (cs := #[.int .u64 t113, .int .u64 t114, .int .u64 0, .string (⟨#[]⟩ : ByteArray), .string (⟨#[]⟩ : ByteArray)]) ?_ 2 _ rfl; (with_reducible repeat (first | refine blk_drewN ?_ _ | refine blk_drew ?_ | refine blk_alloc ?_ _)); refine blk_put (cs := #[.int .u64 t113, .int .u64 0, .int .u64 0, .string (⟨#[]⟩ : ByteArray), .string (⟨#[]⟩ : ByteArray)]) ?_ 1 _ rfl; (with_reducible repeat (first | refine blk_drewN ?_ _ | refine blk_drew ?_ | refine blk_alloc ?_ _)); refine blk_put (cs := #[.int .u64 0, .int .u64 0, .int .u64 0, .string (⟨#[]⟩ : ByteArray), .string (⟨#[]⟩ : ByteArray)]) ?_ 0 _ rfl; (with_reducible repeat (first | refine blk_drewN ?_ _ | refine blk_drew ?_ | refine blk_alloc ?_ _)); exact BK118.out⟩, ⟨by repeat (first | (with_reducible first | exact HB.out | apply below_alloc | apply pw_below_drewN | apply below_drew1 | refine below_set ?_ GE101.out | refine below_set ?_ GE118.out) | exact HB.out)⟩⟩
          · rw [if_neg c28] at H
            have c28b0 : (a1.toList == ([] : List UInt8)) = false := beq_eq_false_iff_ne.mpr c28
            have c28b1 : (a1.toList != ([] : List UInt8)) = true := bne_iff_ne.mpr c28
            (first | rw [c28b0] | (simp only [i64_w, i32_w]; rw [c28b0]) | skip)
            by_cases c29 : a2.toList = ([] : List UInt8)
            · rw [if_pos c29] at H
              have c29b0 : (a2.toList == ([] : List UInt8)) = true := beq_iff_eq.mpr c29
              have c29b1 : (a2.toList != ([] : List UInt8)) = false := bne_eq_false_iff_eq.mpr c29
              clear c29
              have H' := Aside0.mk H
              clear H
              go_wp2
              go_meet
              case rel => exact ⟨_, (true), (by first | rfl | (simp; done) | (simp [*]; done)), H', ⟨by have := HJ3.out; first | omega | exact Nat.le_refl _⟩, ⟨by (with_reducible repeat (first | refine blk_drewN ?_ _ | refine blk_drew ?_ | refine blk_alloc ?_ _)); refine blk_far ?_ NB101_118.out _; (with_reducible repeat (first | refine blk_drewN ?_ _ | refine blk_drew ?_ | refine blk_alloc ?_ _)); refine blk_far ?_ NB101_118.out _; (with_reducible repeat (first | refine blk_drewN ?_ _ | refine blk_drew ?_ | refine blk_alloc ?_ _)); refine blk_far ?_ NB101_118.out _; (with_reducible repeat (first | refine blk_drewN ?_ _ | refine blk_drew ?_ | refine blk_alloc ?_ _)); refine blk_far ?_ NB101_118.out _; (with_reducible repeat (first | refine blk_drewN ?_ _ | refine blk_drew ?_ | refine blk_alloc ?_ _)); refine blk_far ?_ NB101_118.out _; (with_reducible repeat (first | refine blk_drewN ?_ _ | refine blk_drew ?_ | refine blk_alloc ?_ _)); exact BK101.out⟩, ⟨by (with_reducible repeat (first | refine blk_drewN ?_ _ | refine blk_drew ?_ | refine blk_alloc ?_ _)); refine blk_put (cs := #[.int .u64 t113, .int .u64 t114, .int .u64 t115, .string t116, .string (⟨#[]⟩ : ByteArray)]) ?_ 4 _ rfl; (with_reducible repeat (first | refine blk_drewN ?_ _ | refine blk_drew ?_ | refine blk_alloc ?_ _)); refine blk_put (cs := #[.int .u64 t113, .int .u64 t114, .int .u64 t115, .string (⟨#[]⟩ : ByteArray), .string (⟨#[]⟩ : ByteArray)]) ?_ 3 _ rfl; (with_reducible repeat (first | refine blk_drewN ?_ _ | refine blk_drew ?_ | refine blk_alloc ?_ _)); refine blk_put (cs := #[.int .u64 t113, .int .u64 t114, .int .u64 0, .string (⟨#[]⟩ : ByteArray), .string (⟨#[]⟩ : ByteArray)]) ?_ 2 _ rfl; (with_reducible repeat (first | refine blk_drewN ?_ _ | refine blk_drew ?_ | refine blk_alloc ?_ _)); refine blk_put (cs := #[.int .u64 t113, .int .u64 0, .int .u64 0, .string (⟨#[]⟩ : ByteArray), .string (⟨#[]⟩ : ByteArray)]) ?_ 1 _ rfl; (with_reducible repeat (first | refine blk_drewN ?_ _ | refine blk_drew ?_ | refine blk_alloc ?_ _)); refine blk_put (cs := #[.int .u64 0, .int .u64 0, .int .u64 0, .string (⟨#[]⟩ : ByteArray), .string (⟨#[]⟩ : ByteArray)]) ?_ 0 _ rfl; (with_reducible repeat (first | refine blk_drewN ?_ _ | refine blk_drew ?_ | refine blk_alloc ?_ _)); exact BK118.out⟩, ⟨by repeat (first | (with_reducible first | exact HB.out | apply below_alloc | apply pw_below_drewN | apply below_drew1 | refine below_set ?_ GE101.out | refine below_set ?_ GE118.out) | exact HB.out)⟩⟩
            · rw [if_neg c29] at H
              have c29b0 : (a2.toList == ([] : List UInt8)) = false := beq_eq_false_iff_ne.mpr c29
              have c29b1 : (a2.toList != ([] : List UInt8)) = true := bne_iff_ne.mpr c29
              obtain ⟨y119, hy119⟩ : ∃ y_ : List (S29), y_ = (([(⟨t113, t114, t115, t116, t117⟩ : S29)] : List (S29))) := ⟨_, rfl⟩
              replace H : ((MT.laws_svGood.f kj3 y119).bind fun t122 => (if t122 = true then ((HandS.Fits.f t113 t114 t115 t116 t117).bind fun t123 => (laws_FnSemverSetPrints.j1 kj3 a1 a2 (!t123) t103 t104 t105 t106 t107 t113 t114 t115 t116 t117)) else (laws_FnSemverSetPrints.j1 kj3 a1 a2 true t103 t104 t105 t106 t107 t113 t114 t115 t116 t117))) = some r := by first | (rw [hy119]; with_reducible exact H) | (have H2_ := (Option.bind_some _ _).symm.trans H; rw [hy119]; with_reducible exact H2_) | (have H2_ := (Option.bind_some _ _).symm.trans H; with_reducible exact H2_) | with_reducible exact H | (rw [hy119]; exact H) | exact H
              have Ny119 := Aside0.mk hy119
              clear hy119
              replace H := Option.bind_eq_some_iff.mp H
              obtain ⟨t122, A300, H⟩ := H
              replace H : (if t122 = true then ((HandS.Fits.f t113 t114 t115 t116 t117).bind fun t123 => (laws_FnSemverSetPrints.j1 kj3 a1 a2 (!t123) t103 t104 t105 t106 t107 t113 t114 t115 t116 t117)) else (laws_FnSemverSetPrints.j1 kj3 a1 a2 true t103 t104 t105 t106 t107 t113 t114 t115 t116 t117)) = some r := H
              have A30 := Aside0.mk A300
              clear A300
              by_cases c31 : t122 = true
              · subst c31
                have H1 : ((HandS.Fits.f t113 t114 t115 t116 t117).bind fun t123 => (laws_FnSemverSetPrints.j1 kj3 a1 a2 (!t123) t103 t104 t105 t106 t107 t113 t114 t115 t116 t117)) = some r := by rw [if_pos rfl] at H; exact H
                clear H
                have H := H1
                clear H1
                replace H := Option.bind_eq_some_iff.mp H
                obtain ⟨t123, A320, H⟩ := H
                replace H : (laws_FnSemverSetPrints.j1 kj3 a1 a2 (!t123) t103 t104 t105 t106 t107 t113 t114 t115 t116 t117) = some r := H
                have A32 := Aside0.mk A320
                clear A320
                have H' := Aside0.mk H
                clear H
                have hnb33 := NB118_101.out
                have hnc33 := NB101_118.out
                have hcz34_0 : w25.cell? ⟨gb118, 0, none⟩ = some (.int .u64 0) := (blk_cell BK118.out 0).trans rfl
                have hcz34_1 : w25.cell? ⟨gb118, 1, none⟩ = some (.int .u64 0) := (blk_cell BK118.out 1).trans rfl
                have hcz34_2 : w25.cell? ⟨gb118, 2, none⟩ = some (.int .u64 0) := (blk_cell BK118.out 2).trans rfl
                have hcz34_3 : w25.cell? ⟨gb118, 3, none⟩ = some (.string (⟨#[]⟩ : ByteArray)) := (blk_cell BK118.out 3).trans rfl
                have hcz34_4 : w25.cell? ⟨gb118, 4, none⟩ = some (.string (⟨#[]⟩ : ByteArray)) := (blk_cell BK118.out 4).trans rfl
                have hfz34_0 := blk_frozen BK118.out 0
                have hfz34_1 := blk_frozen BK118.out 1
                have hfz34_2 := blk_frozen BK118.out 2
                have hfz34_3 := blk_frozen BK118.out 3
                have hfz34_4 := blk_frozen BK118.out 4
                go_wp2_with (first | ((with_reducible refine gate_dst (N := 44) rfl ?_); (try (refine gate_guard (by rfl) ?_; dsimp only)); refine Kd.R_lit k29 _ 29 ?hg (N := 44) ?hd (xs := ([(⟨t113, t114, t115, t116, t117⟩ : S29)] : List (S29))) (inner := [.int .u64 t113, .int .u64 t114, .int .u64 t115, .string t116, .string t117]) (ok := fun _ => True) (okp := fun _ => True) ?hr ?hp (fun _ hk => hk) trivial (Below.refl _ _) (Nat.le_refl _) (by simp) ?_; (case hd => rfl); (case hg => rfl); (case hr => first | (go_simp; done) | (go_simp; rfl)); (case hp => exact (Reps.c5 (show Kd.M k29 _ _ _ (⟨t113, t114, t115, t116, t117⟩ : S29) [.int .u64 t113, .int .u64 t114, .int .u64 t115, .string t116, .string t117] from (k29_mkM _ _ _ (⟨t113, t114, t115, t116, t117⟩ : S29) )) (Reps.none _ _))); intro v120 w35 ho36 hb hg_ hnew_; clear hg_ hnew_; (first | rw [← Ny119.out] at ho36 | (simp only [Int.reduceToNat] at ho36; rw [← Ny119.out] at ho36)); have n0_ := Aside0.mk (Kd.R_lower (Kd.R_newB (Kd.R_newB ho36 (g := gb101) (o := .cells #[.int .u64 t103, .int .u64 t104, .int .u64 t105, .string t106, .string t107] 29 (0, 0)) (by (with_reducible repeat (first | refine blk_drewN ?_ _ | refine blk_drew ?_ | refine blk_alloc ?_ _)); refine blk_far ?_ NB101_118.out _; (with_reducible repeat (first | refine blk_drewN ?_ _ | refine blk_drew ?_ | refine blk_alloc ?_ _)); refine blk_far ?_ NB101_118.out _; (with_reducible repeat (first | refine blk_drewN ?_ _ | refine blk_drew ?_ | refine blk_alloc ?_ _)); refine blk_far ?_ NB101_118.out _; (with_reducible repeat (first | refine blk_drewN ?_ _ | refine blk_drew ?_ | refine blk_alloc ?_ _)); refine blk_far ?_ NB101_118.out _; (with_reducible repeat (first | refine blk_drewN ?_ _ | refine blk_drew ?_ | refine blk_alloc ?_ _)); refine blk_far ?_ NB101_118.out _; (with_reducible repeat (first | refine blk_drewN ?_ _ | refine blk_drew ?_ | refine blk_alloc ?_ _)); exact BK101.out)) (g := gb118) (o := .cells #[.int .u64 t113, .int .u64 t114, .int .u64 t115, .string t116, .string t117] 29 (0, 0)) (by (with_reducible repeat (first | refine blk_drewN ?_ _ | refine blk_drew ?_ | refine blk_alloc ?_ _)); refine blk_put (cs := #[.int .u64 t113, .int .u64 t114, .int .u64 t115, .string t116, .string (⟨#[]⟩ : ByteArray)]) ?_ 4 _ rfl; (with_reducible repeat (first | refine blk_drewN ?_ _ | refine blk_drew ?_ | refine blk_alloc ?_ _)); refine blk_put (cs := #[.int .u64 t113, .int .u64 t114, .int .u64 t115, .string (⟨#[]⟩ : ByteArray), .string (⟨#[]⟩ : ByteArray)]) ?_ 3 _ rfl; (with_reducible repeat (first | refine blk_drewN ?_ _ | refine blk_drew ?_ | refine blk_alloc ?_ _)); refine blk_put (cs := #[.int .u64 t113, .int .u64 t114, .int .u64 0, .string (⟨#[]⟩ : ByteArray), .string (⟨#[]⟩ : ByteArray)]) ?_ 2 _ rfl; (with_reducible repeat (first | refine blk_drewN ?_ _ | refine blk_drew ?_ | refine blk_alloc ?_ _)); refine blk_put (cs := #[.int .u64 t113, .int .u64 0, .int .u64 0, .string (⟨#[]⟩ : ByteArray), .string (⟨#[]⟩ : ByteArray)]) ?_ 1 _ rfl; (with_reducible repeat (first | refine blk_drewN ?_ _ | refine blk_drew ?_ | refine blk_alloc ?_ _)); refine blk_put (cs := #[.int .u64 0, .int .u64 0, .int .u64 0, .string (⟨#[]⟩ : ByteArray), .string (⟨#[]⟩ : ByteArray)]) ?_ 0 _ rfl; (with_reducible repeat (first | refine blk_drewN ?_ _ | refine blk_drew ?_ | refine blk_alloc ?_ _)); exact BK118.out)) (below_size (by repeat (first | (with_reducible first | exact HB.out | apply below_alloc | apply pw_below_drewN | apply below_drew1 | refine below_set ?_ GE101.out | refine below_set ?_ GE118.out) | exact HB.out)))); have n1_ := Aside0.mk (blk_below (g := gb101) (o := .cells #[.int .u64 t103, .int .u64 t104, .int .u64 t105, .string t106, .string t107] 29 (0, 0)) (by (with_reducible repeat (first | refine blk_drewN ?_ _ | refine blk_drew ?_ | refine blk_alloc ?_ _)); refine blk_far ?_ NB101_118.out _; (with_reducible repeat (first | refine blk_drewN ?_ _ | refine blk_drew ?_ | refine blk_alloc ?_ _)); refine blk_far ?_ NB101_118.out _; (with_reducible repeat (first | refine blk_drewN ?_ _ | refine blk_drew ?_ | refine blk_alloc ?_ _)); refine blk_far ?_ NB101_118.out _; (with_reducible repeat (first | refine blk_drewN ?_ _ | refine blk_drew ?_ | refine blk_alloc ?_ _)); refine blk_far ?_ NB101_118.out _; (with_reducible repeat (first | refine blk_drewN ?_ _ | refine blk_drew ?_ | refine blk_alloc ?_ _)); refine blk_far ?_ NB101_118.out _; (with_reducible repeat (first | refine blk_drewN ?_ _ | refine blk_drew ?_ | refine blk_alloc ?_ _)); exact BK101.out) hb); have n2_ := Aside0.mk (blk_below (g := gb118) (o := .cells #[.int .u64 t113, .int .u64 t114, .int .u64 t115, .string t116, .string t117] 29 (0, 0)) (by (with_reducible repeat (first | refine blk_drewN ?_ _ | refine blk_drew ?_ | refine blk_alloc ?_ _)); refine blk_put (cs := #[.int .u64 t113, .int .u64 t114, .int .u64 t115, .string t116, .string (⟨#[]⟩ : ByteArray)]) ?_ 4 _ rfl; (with_reducible repeat (first | refine blk_drewN ?_ _ | refine blk_drew ?_ | refine blk_alloc ?_ _)); refine blk_put (cs := #[.int .u64 t113, .int .u64 t114, .int .u64 t115, .string (⟨#[]⟩ : ByteArray), .string (⟨#[]⟩ : ByteArray)]) ?_ 3 _ rfl; (with_reducible repeat (first | refine blk_drewN ?_ _ | refine blk_drew ?_ | refine blk_alloc ?_ _)); refine blk_put (cs := #[.int .u64 t113, .int .u64 t114, .int .u64 0, .string (⟨#[]⟩ : ByteArray), .string (⟨#[]⟩ : ByteArray)]) ?_ 2 _ rfl; (with_reducible repeat (first | refine blk_drewN ?_ _ | refine blk_drew ?_ | refine blk_alloc ?_ _)); refine blk_put (cs := #[.int .u64 t113, .int .u64 0, .int .u64 0, .string (⟨#[]⟩ : ByteArray), .string (⟨#[]⟩ : ByteArray)]) ?_ 1 _ rfl; (with_reducible repeat (first | refine blk_drewN ?_ _ | refine blk_drew ?_ | refine blk_alloc ?_ _)); refine blk_put (cs := #[.int .u64 0, .int .u64 0, .int .u64 0, .string (⟨#[]⟩ : ByteArray), .string (⟨#[]⟩ : ByteArray)]) ?_ 0 _ rfl; (with_reducible repeat (first | refine blk_drewN ?_ _ | refine blk_drew ?_ | refine blk_alloc ?_ _)); exact BK118.out) hb); have n3_ := Aside0.mk (below_step (by repeat (first | (with_reducible first | exact HB.out | apply below_alloc | apply pw_below_drewN | apply below_drew1 | refine below_set ?_ GE101.out | refine below_set ?_ GE118.out) | exact HB.out)) hb); clear BK101; clear BK118; clear HB; have HO121 := n0_; have BK101 := n1_; have BK118 := n2_; have HB := n3_; clear n0_ n1_ n2_ n3_; clear hb ho36; obtain ⟨Ao37, co37, eo37⟩ := Kd.R_slice HO121.out; subst eo37) | (go_at_call 26; (with_reducible refine (MT.laws_svGood.calls kj3 _ _ y119 true _ ?side1 ?side2 A30.out).mono ?_); (case side1 => repeat (first | exact (Kd.R_reads' HO121.out).2.2 | (with_reducible refine Kd.C_alloc ?_ _) | (with_reducible refine Kd.C_drewN ?_ _) | (with_reducible refine Kd.C_drew ?_))); (case side2 => exact (Kd.R_reads' HO121.out).2.1); rintro e w38 ⟨rfl, hb⟩; have n0_ := Aside0.mk (Kd.R_below (by (with_reducible repeat (first | apply Kd.R_alloc | apply Kd.R_drewN | apply Kd.R_drew)); exact HO121.out) hb); have n1_ := Aside0.mk (blk_below (g := gb101) (o := .cells #[.int .u64 t103, .int .u64 t104, .int .u64 t105, .string t106, .string t107] 29 (0, 0)) (by (with_reducible repeat (first | refine blk_drewN ?_ _ | refine blk_drew ?_ | refine blk_alloc ?_ _)); exact BK101.out) hb); have n2_ := Aside0.mk (blk_below (g := gb118) (o := .cells #[.int .u64 t113, .int .u64 t114, .int .u64 t115, .string t116, .string t117] 29 (0, 0)) (by (with_reducible repeat (first | refine blk_drewN ?_ _ | refine blk_drew ?_ | refine blk_alloc ?_ _)); exact BK118.out) hb); have n3_ := Aside0.mk (below_step (by repeat (first | (with_reducible first | exact HB.out | apply below_alloc | apply pw_below_drewN | apply below_drew1 | refine below_set ?_ GE101.out | refine below_set ?_ GE118.out) | exact HB.out)) hb); clear HO121; clear BK101; clear BK118; clear HB; have HO121 := n0_; have BK101 := n1_; have BK118 := n2_; have HB := n3_; clear n0_ n1_ n2_ n3_; (try clear hb); (try clear hb2); (try clear hk); (try clear hi); have hcz39_0 : w38.cell? ⟨gb118, 0, none⟩ = some (.int .u64 t113) := (blk_cell BK118.out 0).trans rfl; have hcz39_1 : w38.cell? ⟨gb118, 1, none⟩ = some (.int .u64 t114) := (blk_cell BK118.out 1).trans rfl; have hcz39_2 : w38.cell? ⟨gb118, 2, none⟩ = some (.int .u64 t115) := (blk_cell BK118.out 2).trans rfl; have hcz39_3 : w38.cell? ⟨gb118, 3, none⟩ = some (.string t116) := (blk_cell BK118.out 3).trans rfl; have hcz39_4 : w38.cell? ⟨gb118, 4, none⟩ = some (.string t117) := (blk_cell BK118.out 4).trans rfl; have hfz39_0 := blk_frozen BK118.out 0; have hfz39_1 := blk_frozen BK118.out 1; have hfz39_2 := blk_frozen BK118.out 2; have hfz39_3 := blk_frozen BK118.out 3; have hfz39_4 := blk_frozen BK118.out 4) | (go_at_call 49; (with_reducible refine (HandS.Fits.calls t113 t114 t115 t116 t117 t123 _ A32.out).mono ?_); rintro e w40 ⟨rfl, hb⟩; have n0_ := Aside0.mk (Kd.R_below (by (with_reducible repeat (first | apply Kd.R_alloc | apply Kd.R_drewN | apply Kd.R_drew)); exact HO121.out) hb); have n1_ := Aside0.mk (blk_below (g := gb101) (o := .cells #[.int .u64 t103, .int .u64 t104, .int .u64 t105, .string t106, .string t107] 29 (0, 0)) (by (with_reducible repeat (first | refine blk_drewN ?_ _ | refine blk_drew ?_ | refine blk_alloc ?_ _)); exact BK101.out) hb); have n2_ := Aside0.mk (blk_below (g := gb118) (o := .cells #[.int .u64 t113, .int .u64 t114, .int .u64 t115, .string t116, .string t117] 29 (0, 0)) (by (with_reducible repeat (first | refine blk_drewN ?_ _ | refine blk_drew ?_ | refine blk_alloc ?_ _)); exact BK118.out) hb); have n3_ := Aside0.mk (below_step (by repeat (first | (with_reducible first | exact HB.out | apply below_alloc | apply pw_below_drewN | apply below_drew1 | refine below_set ?_ GE101.out | refine below_set ?_ GE118.out) | exact HB.out)) hb); clear HO121; clear BK101; clear BK118; clear HB; have HO121 := n0_; have BK101 := n1_; have BK118 := n2_; have HB := n3_; clear n0_ n1_ n2_ n3_; (try clear hb); (try clear hb2); (try clear hk); (try clear hi)))
                go_meet
                case rel => exact ⟨_, (!t123), (by first | rfl | (simp; done) | (simp [*]; done)), H', ⟨by have := HJ3.out; first | omega | exact Nat.le_refl _⟩, ⟨by (with_reducible repeat (first | refine blk_drewN ?_ _ | refine blk_drew ?_ | refine blk_alloc ?_ _)); exact BK101.out⟩, ⟨by (with_reducible repeat (first | refine blk_drewN ?_ _ | refine blk_drew ?_ | refine blk_alloc ?_ _)); exact BK118.out⟩, ⟨by repeat (first | (with_reducible first | exact HB.out | apply below_alloc | apply pw_below_drewN | apply below_drew1 | refine below_set ?_ GE101.out | refine below_set ?_ GE118.out) | exact HB.out)⟩⟩
              · replace c31 := Bool.eq_false_iff.mpr c31
                subst c31
                have H1 : (laws_FnSemverSetPrints.j1 kj3 a1 a2 true t103 t104 t105 t106 t107 t113 t114 t115 t116 t117) = some r := by rw [if_neg (show ¬ (false = true) by decide)] at H; exact H
                clear H
                have H := H1
                clear H1
                have H' := Aside0.mk H
                clear H
                have hnb41 := NB118_101.out
                have hnc41 := NB101_118.out
                have hcz42_0 : w25.cell? ⟨gb118, 0, none⟩ = some (.int .u64 0) := (blk_cell BK118.out 0).trans rfl
                have hcz42_1 : w25.cell? ⟨gb118, 1, none⟩ = some (.int .u64 0) := (blk_cell BK118.out 1).trans rfl
                have hcz42_2 : w25.cell? ⟨gb118, 2, none⟩ = some (.int .u64 0) := (blk_cell BK118.out 2).trans rfl
                have hcz42_3 : w25.cell? ⟨gb118, 3, none⟩ = some (.string (⟨#[]⟩ : ByteArray)) := (blk_cell BK118.out 3).trans rfl
                have hcz42_4 : w25.cell? ⟨gb118, 4, none⟩ = some (.string (⟨#[]⟩ : ByteArray)) := (blk_cell BK118.out 4).trans rfl
                have hfz42_0 := blk_frozen BK118.out 0
                have hfz42_1 := blk_frozen BK118.out 1
                have hfz42_2 := blk_frozen BK118.out 2
                have hfz42_3 := blk_frozen BK118.out 3
                have hfz42_4 := blk_frozen BK118.out 4
                go_wp2_with (first | ((with_reducible refine gate_dst (N := 44) rfl ?_); (try (refine gate_guard (by rfl) ?_; dsimp only)); refine Kd.R_lit k29 _ 29 ?hg (N := 44) ?hd (xs := ([(⟨t113, t114, t115, t116, t117⟩ : S29)] : List (S29))) (inner := [.int .u64 t113, .int .u64 t114, .int .u64 t115, .string t116, .string t117]) (ok := fun _ => True) (okp := fun _ => True) ?hr ?hp (fun _ hk => hk) trivial (Below.refl _ _) (Nat.le_refl _) (by simp) ?_; (case hd => rfl); (case hg => rfl); (case hr => first | (go_simp; done) | (go_simp; rfl)); (case hp => exact (Reps.c5 (show Kd.M k29 _ _ _ (⟨t113, t114, t115, t116, t117⟩ : S29) [.int .u64 t113, .int .u64 t114, .int .u64 t115, .string t116, .string t117] from (k29_mkM _ _ _ (⟨t113, t114, t115, t116, t117⟩ : S29) )) (Reps.none _ _))); intro v120 w43 ho44 hb hg_ hnew_; clear hg_ hnew_; (first | rw [← Ny119.out] at ho44 | (simp only [Int.reduceToNat] at ho44; rw [← Ny119.out] at ho44)); have n0_ := Aside0.mk (Kd.R_lower (Kd.R_newB (Kd.R_newB ho44 (g := gb101) (o := .cells #[.int .u64 t103, .int .u64 t104, .int .u64 t105, .string t106, .string t107] 29 (0, 0)) (by (with_reducible repeat (first | refine blk_drewN ?_ _ | refine blk_drew ?_ | refine blk_alloc ?_ _)); refine blk_far ?_ NB101_118.out _; (with_reducible repeat (first | refine blk_drewN ?_ _ | refine blk_drew ?_ | refine blk_alloc ?_ _)); refine blk_far ?_ NB101_118.out _; (with_reducible repeat (first | refine blk_drewN ?_ _ | refine blk_drew ?_ | refine blk_alloc ?_ _)); refine blk_far ?_ NB101_118.out _; (with_reducible repeat (first | refine blk_drewN ?_ _ | refine blk_drew ?_ | refine blk_alloc ?_ _)); refine blk_far ?_ NB101_118.out _; (with_reducible repeat (first | refine blk_drewN ?_ _ | refine blk_drew ?_ | refine blk_alloc ?_ _)); refine blk_far ?_ NB101_118.out _; (with_reducible repeat (first | refine blk_drewN ?_ _ | refine blk_drew ?_ | refine blk_alloc ?_ _)); exact BK101.out)) (g := gb118) (o := .cells #[.int .u64 t113, .int .u64 t114, .int .u64 t115, .string t116, .string t117] 29 (0, 0)) (by (with_reducible repeat (first | refine blk_drewN ?_ _ | refine blk_drew ?_ | refine blk_alloc ?_ _)); refine blk_put (cs := #[.int .u64 t113, .int .u64 t114, .int .u64 t115, .string t116, .string (⟨#[]⟩ : ByteArray)]) ?_ 4 _ rfl; (with_reducible repeat (first | refine blk_drewN ?_ _ | refine blk_drew ?_ | refine blk_alloc ?_ _)); refine blk_put (cs := #[.int .u64 t113, .int .u64 t114, .int .u64 t115, .string (⟨#[]⟩ : ByteArray), .string (⟨#[]⟩ : ByteArray)]) ?_ 3 _ rfl; (with_reducible repeat (first | refine blk_drewN ?_ _ | refine blk_drew ?_ | refine blk_alloc ?_ _)); refine blk_put (cs := #[.int .u64 t113, .int .u64 t114, .int .u64 0, .string (⟨#[]⟩ : ByteArray), .string (⟨#[]⟩ : ByteArray)]) ?_ 2 _ rfl; (with_reducible repeat (first | refine blk_drewN ?_ _ | refine blk_drew ?_ | refine blk_alloc ?_ _)); refine blk_put (cs := #[.int .u64 t113, .int .u64 0, .int .u64 0, .string (⟨#[]⟩ : ByteArray), .string (⟨#[]⟩ : ByteArray)]) ?_ 1 _ rfl; (with_reducible repeat (first | refine blk_drewN ?_ _ | refine blk_drew ?_ | refine blk_alloc ?_ _)); refine blk_put (cs := #[.int .u64 0, .int .u64 0, .int .u64 0, .string (⟨#[]⟩ : ByteArray), .string (⟨#[]⟩ : ByteArray)]) ?_ 0 _ rfl; (with_reducible repeat (first | refine blk_drewN ?_ _ | refine blk_drew ?_ | refine blk_alloc ?_ _)); exact BK118.out)) (below_size (by repeat (first | (with_reducible first | exact HB.out | apply below_alloc | apply pw_below_drewN | apply below_drew1 | refine below_set ?_ GE101.out | refine below_set ?_ GE118.out) | exact HB.out)))); have n1_ := Aside0.mk (blk_below (g := gb101) (o := .cells #[.int .u64 t103, .int .u64 t104, .int .u64 t105, .string t106, .string t107] 29 (0, 0)) (by (with_reducible repeat (first | refine blk_drewN ?_ _ | refine blk_drew ?_ | refine blk_alloc ?_ _)); refine blk_far ?_ NB101_118.out _; (with_reducible repeat (first | refine blk_drewN ?_ _ | refine blk_drew ?_ | refine blk_alloc ?_ _)); refine blk_far ?_ NB101_118.out _; (with_reducible repeat (first | refine blk_drewN ?_ _ | refine blk_drew ?_ | refine blk_alloc ?_ _)); refine blk_far ?_ NB101_118.out _; (with_reducible repeat (first | refine blk_drewN ?_ _ | refine blk_drew ?_ | refine blk_alloc ?_ _)); refine blk_far ?_ NB101_118.out _; (with_reducible repeat (first | refine blk_drewN ?_ _ | refine blk_drew ?_ | refine blk_alloc ?_ _)); refine blk_far ?_ NB101_118.out _; (with_reducible repeat (first | refine blk_drewN ?_ _ | refine blk_drew ?_ | refine blk_alloc ?_ _)); exact BK101.out) hb); have n2_ := Aside0.mk (blk_below (g := gb118) (o := .cells #[.int .u64 t113, .int .u64 t114, .int .u64 t115, .string t116, .string t117] 29 (0, 0)) (by (with_reducible repeat (first | refine blk_drewN ?_ _ | refine blk_drew ?_ | refine blk_alloc ?_ _)); refine blk_put (cs := #[.int .u64 t113, .int .u64 t114, .int .u64 t115, .string t116, .string (⟨#[]⟩ : ByteArray)]) ?_ 4 _ rfl; (with_reducible repeat (first | refine blk_drewN ?_ _ | refine blk_drew ?_ | refine blk_alloc ?_ _)); refine blk_put (cs := #[.int .u64 t113, .int .u64 t114, .int .u64 t115, .string (⟨#[]⟩ : ByteArray), .string (⟨#[]⟩ : ByteArray)]) ?_ 3 _ rfl; (with_reducible repeat (first | refine blk_drewN ?_ _ | refine blk_drew ?_ | refine blk_alloc ?_ _)); refine blk_put (cs := #[.int .u64 t113, .int .u64 t114, .int .u64 0, .string (⟨#[]⟩ : ByteArray), .string (⟨#[]⟩ : ByteArray)]) ?_ 2 _ rfl; (with_reducible repeat (first | refine blk_drewN ?_ _ | refine blk_drew ?_ | refine blk_alloc ?_ _)); refine blk_put (cs := #[.int .u64 t113, .int .u64 0, .int .u64 0, .string (⟨#[]⟩ : ByteArray), .string (⟨#[]⟩ : ByteArray)]) ?_ 1 _ rfl; (with_reducible repeat (first | refine blk_drewN ?_ _ | refine blk_drew ?_ | refine blk_alloc ?_ _)); refine blk_put (cs := #[.int .u64 0, .int .u64 0, .int .u64 0, .string (⟨#[]⟩ : ByteArray), .string (⟨#[]⟩ : ByteArray)]) ?_ 0 _ rfl; (with_reducible repeat (first | refine blk_drewN ?_ _ | refine blk_drew ?_ | refine blk_alloc ?_ _)); exact BK118.out) hb); have n3_ := Aside0.mk (below_step (by repeat (first | (with_reducible first | exact HB.out | apply below_alloc | apply pw_below_drewN | apply below_drew1 | refine below_set ?_ GE101.out | refine below_set ?_ GE118.out) | exact HB.out)) hb); clear BK101; clear BK118; clear HB; have HO121 := n0_; have BK101 := n1_; have BK118 := n2_; have HB := n3_; clear n0_ n1_ n2_ n3_; clear hb ho44; obtain ⟨Ao45, co45, eo45⟩ := Kd.R_slice HO121.out; subst eo45) | (go_at_call 26; (with_reducible refine (MT.laws_svGood.calls kj3 _ _ y119 false _ ?side1 ?side2 A30.out).mono ?_); (case side1 => repeat (first | exact (Kd.R_reads' HO121.out).2.2 | (with_reducible refine Kd.C_alloc ?_ _) | (with_reducible refine Kd.C_drewN ?_ _) | (with_reducible refine Kd.C_drew ?_))); (case side2 => exact (Kd.R_reads' HO121.out).2.1); rintro e w46 ⟨rfl, hb⟩; have n0_ := Aside0.mk (Kd.R_below (by (with_reducible repeat (first | apply Kd.R_alloc | apply Kd.R_drewN | apply Kd.R_drew)); exact HO121.out) hb); have n1_ := Aside0.mk (blk_below (g := gb101) (o := .cells #[.int .u64 t103, .int .u64 t104, .int .u64 t105, .string t106, .string t107] 29 (0, 0)) (by (with_reducible repeat (first | refine blk_drewN ?_ _ | refine blk_drew ?_ | refine blk_alloc ?_ _)); exact BK101.out) hb); have n2_ := Aside0.mk (blk_below (g := gb118) (o := .cells #[.int .u64 t113, .int .u64 t114, .int .u64 t115, .string t116, .string t117] 29 (0, 0)) (by (with_reducible repeat (first | refine blk_drewN ?_ _ | refine blk_drew ?_ | refine blk_alloc ?_ _)); exact BK118.out) hb); have n3_ := Aside0.mk (below_step (by repeat (first | (with_reducible first | exact HB.out | apply below_alloc | apply pw_below_drewN | apply below_drew1 | refine below_set ?_ GE101.out | refine below_set ?_ GE118.out) | exact HB.out)) hb); clear HO121; clear BK101; clear BK118; clear HB; have HO121 := n0_; have BK101 := n1_; have BK118 := n2_; have HB := n3_; clear n0_ n1_ n2_ n3_; (try clear hb); (try clear hb2); (try clear hk); (try clear hi)))
                go_meet
                case rel => exact ⟨_, (true), (by first | rfl | (simp; done) | (simp [*]; done)), H', ⟨by have := HJ3.out; first | omega | exact Nat.le_refl _⟩, ⟨by (with_reducible repeat (first | refine blk_drewN ?_ _ | refine blk_drew ?_ | refine blk_alloc ?_ _)); exact BK101.out⟩, ⟨by (with_reducible repeat (first | refine blk_drewN ?_ _ | refine blk_drew ?_ | refine blk_alloc ?_ _)); exact BK118.out⟩, ⟨by repeat (first | (with_reducible first | exact HB.out | apply below_alloc | apply pw_below_drewN | apply below_drew1 | refine below_set ?_ GE101.out | refine below_set ?_ GE118.out) | exact HB.out)⟩⟩
        case rest =>
          clear HC19
          try clear c1
          try clear c2
          try clear p2
          try clear c3
          try clear c4
          try clear c5
          try clear c7
          try clear c8
          try clear c8b0
          try clear c8b1
          try clear c12
          try clear c15
          try clear c25
          try clear c26
          try clear c28
          try clear c28b0
          try clear c28b1
          try clear c29
          try clear c29b0
          try clear c29b1
          try clear c31
          try clear c33
          try clear c41
          try clear hcz11_0
          try clear hcz11_1
          try clear hcz11_2
          try clear hcz11_3
          try clear hcz11_4
          try clear hcz13_0
          try clear hcz13_1
          try clear hcz13_2
          try clear hcz13_3
          try clear hcz13_4
          try clear hcz20_0
          try clear hcz20_1
          try clear hcz20_2
          try clear hcz20_3
          try clear hcz20_4
          try clear hcz22_0
          try clear hcz22_1
          try clear hcz22_2
          try clear hcz22_3
          try clear hcz22_4
          try clear hcz27_0
          try clear hcz27_1
          try clear hcz27_2
          try clear hcz27_3
          try clear hcz27_4
          try clear hcz34_0
          try clear hcz34_1
          try clear hcz34_2
          try clear hcz34_3
          try clear hcz34_4
          try clear hcz39_0
          try clear hcz39_1
          try clear hcz39_2
          try clear hcz39_3
          try clear hcz39_4
          try clear hcz42_0
          try clear hcz42_1
          try clear hcz42_2
          try clear hcz42_3
          try clear hcz42_4
          try clear hcz9_0
          try clear hcz9_1
          try clear hcz9_2
          try clear hcz9_3
          try clear hcz9_4
          try clear hfz11_0
          try clear hfz11_1
          try clear hfz11_2
          try clear hfz11_3
          try clear hfz11_4
          try clear hfz13_0
          try clear hfz13_1
          try clear hfz13_2
          try clear hfz13_3
          try clear hfz13_4
          try clear hfz20_0
          try clear hfz20_1
          try clear hfz20_2
          try clear hfz20_3
          try clear hfz20_4
          try clear hfz22_0
          try clear hfz22_1
          try clear hfz22_2
          try clear hfz22_3
          try clear hfz22_4
          try clear hfz27_0
          try clear hfz27_1
          try clear hfz27_2
          try clear hfz27_3
          try clear hfz27_4
          try clear hfz34_0
          try clear hfz34_1
          try clear hfz34_2
          try clear hfz34_3
          try clear hfz34_4
          try clear hfz39_0
          try clear hfz39_1
          try clear hfz39_2
          try clear hfz39_3
          try clear hfz39_4
          try clear hfz42_0
          try clear hfz42_1
          try clear hfz42_2
          try clear hfz42_3
          try clear hfz42_4
          try clear hfz9_0
          try clear hfz9_1
          try clear hfz9_2
          try clear hfz9_3
          try clear hfz9_4
          try clear p2
          obtain ⟨kq, x52_18, rfl, HA, HJ18, BK101, BK118, HB⟩ := hcut
          cases kq with
          | zero => exact absurd HA.out (by simp [laws_FnSemverSetPrints.j1])
          | succ kj18 =>
            have H := HA.out
            clear HA
            simp only [laws_FnSemverSetPrints.j1] at H
            by_cases c47 : x52_18 = true
            · subst c47
              have H1 : (some true) = some r := by rw [if_pos rfl] at H; exact H
              clear H
              have H := H1
              clear H1
              obtain rfl := Option.some.inj H
              go_wp2
              go_ret
              exact ⟨by first | rfl | (simp [errW_none, errW_some] <;> rfl) | (simp [*, errW_none, errW_some] <;> rfl), by repeat (first | (with_reducible first | exact HB.out | apply below_alloc | apply pw_below_drewN | apply below_drew1 | refine below_set ?_ GE101.out | refine below_set ?_ GE118.out) | exact HB.out)⟩
            · replace c47 := Bool.eq_false_iff.mpr c47
              subst c47
              replace H : (if GoodRoad t103 t104 t105 t106 t107 t113 t114 t115 t116 t117 a1 a2 then some true else none) = some r := by rw [if_neg (show ¬ (false = true) by decide)] at H; exact H
              by_cases hg_ : GoodRoad t103 t104 t105 t106 t107 t113 t114 t115 t116 t117 a1 a2
              case neg => rw [if_neg hg_] at H; cases H
              rw [if_pos hg_] at H
              obtain rfl := Option.some.inj H
              clear H
              obtain ⟨A480, A490, A500, A510, A520, A530⟩ := hg_
              obtain ⟨t150, ht150⟩ : ∃ t_ : ByteArray, t_ = MS.verT t113.toNat t114.toNat t115.toNat t116 t117 := ⟨_, rfl⟩
              rw [← ht150] at A520 A530
              clear ht150
              have A48 := Aside0.mk A480
              have A49 := Aside0.mk A490
              have A50 := Aside0.mk A500
              have A51 := Aside0.mk A510
              have A52 := Aside0.mk A520
              have A53 := Aside0.mk A530
              clear A480 A490 A500 A510 A520 A530
              have A53v : Aside0 (HandS.StrictVersion.f t150 = some (t113, t114, t115, t116, t117, true)) := Aside0.mk A53.out
              have p0 : wc.cell? ⟨gb101, 0, none⟩ = some (.int .u64 t103) := (blk_cell BK101.out 0).trans rfl
              have p1 : wc.cell? ⟨gb101, 1, none⟩ = some (.int .u64 t104) := (blk_cell BK101.out 1).trans rfl
              have p2 : wc.cell? ⟨gb101, 2, none⟩ = some (.int .u64 t105) := (blk_cell BK101.out 2).trans rfl
              have p3 : wc.cell? ⟨gb101, 3, none⟩ = some (.string t106) := (blk_cell BK101.out 3).trans rfl
              have p4 : wc.cell? ⟨gb101, 4, none⟩ = some (.string t107) := (blk_cell BK101.out 4).trans rfl
              go_wp2_with (first | (go_at_call 50; (with_reducible refine (HandS.VersionSetPre.calls t103 t104 t105 t106 t107 a1 t113 t114 t115 t116 t107 true _ ?gl50A48 A48.out).mono ?_); (case gl50A48 => exact HandS.GlT.below HG.out HB.out); rintro e wq1 ⟨rfl, hb1⟩; have KA1 := Aside0.mk (blk_below BK101.out hb1); have KB1 := Aside0.mk (blk_below BK118.out hb1); have HB1 := Aside0.mk (HB.out.trans (hb1.mono HB.out.size)); have ne1 : gb101 ≠ wq1.heap.size := Nat.ne_of_lt (blk_lt KA1.out); have nb1 := Aside0.mk (Nat.ne_of_lt (blk_lt KB1.out) : gb118 ≠ wq1.heap.size); clear hb1 BK101 BK118 HB; clear p0 p1 p2 p3 p4) | (go_at_call 51; (with_reducible refine (HandS.VersionSetMeta.calls t113 t114 t115 t116 t107 a2 t113 t114 t115 t116 t117 true _ ?gl51A49 A49.out).mono ?_); (case gl51A49 => exact HandS.GlT.below HG.out (HB1.out.alloc HB1.out.size _)); rintro e wq2 ⟨rfl, hb2⟩; have KA2 := Aside0.mk (blk_below (heap_alloc KA1.out) hb2); have KB2 := Aside0.mk (blk_below (heap_alloc KB1.out) hb2); have KE2 := Aside0.mk (blk_below (heap_at (w := wq1) (.cells #[.int .u64 t113, .int .u64 t114, .int .u64 t115, .string t116, .string t107] 29)) hb2); have HB2 := Aside0.mk ((HB1.out.alloc HB1.out.size _).trans (hb2.mono (HB1.out.alloc HB1.out.size _).size)); clear hb2 KA1 KB1; have q0 : wq2.cell? ⟨wq1.heap.size, 0, none⟩ = some (.int .u64 t113) := (blk_cell KE2.out 0).trans rfl; have q1 : wq2.cell? ⟨wq1.heap.size, 1, none⟩ = some (.int .u64 t114) := (blk_cell KE2.out 1).trans rfl; have q2 : wq2.cell? ⟨wq1.heap.size, 2, none⟩ = some (.int .u64 t115) := (blk_cell KE2.out 2).trans rfl; have q3 : wq2.cell? ⟨wq1.heap.size, 3, none⟩ = some (.string t116) := (blk_cell KE2.out 3).trans rfl; have q4 : wq2.cell? ⟨wq1.heap.size, 4, none⟩ = some (.string t107) := (blk_cell KE2.out 4).trans rfl; have qf0 := blk_frozen KE2.out 0; have qf1 := blk_frozen KE2.out 1; have qf2 := blk_frozen KE2.out 2; have qf3 := blk_frozen KE2.out 3; have qf4 := blk_frozen KE2.out 4; have r0 : wq2.cell? ⟨gb101, 0, none⟩ = some (.int .u64 t103) := (blk_cell KA2.out 0).trans rfl; have r1 : wq2.cell? ⟨gb101, 1, none⟩ = some (.int .u64 t104) := (blk_cell KA2.out 1).trans rfl; have r2 : wq2.cell? ⟨gb101, 2, none⟩ = some (.int .u64 t105) := (blk_cell KA2.out 2).trans rfl; have r3 : wq2.cell? ⟨gb101, 3, none⟩ = some (.string t106) := (blk_cell KA2.out 3).trans rfl; have r4 : wq2.cell? ⟨gb101, 4, none⟩ = some (.string t107) := (blk_cell KA2.out 4).trans rfl; have hne2 : gb118 ≠ wq1.heap.size := nb1.out) | (go_at_call 51; (with_reducible refine (HandS.VersionSetMeta.calls t103 t104 t105 t106 t107 a2 t113 t114 t115 t106 t117 true _ ?gl51A50 A50.out).mono ?_); (case gl51A50 => exact HandS.GlT.below HG.out (put29_below (y := (⟨t113, t114, t115, t116, t117⟩ : S29)) HB2.out HB1.out.size)); rintro e wq3 ⟨rfl, hb3⟩; have KB3 := Aside0.mk (blk_below (put29_far (y := (⟨t113, t114, t115, t116, t117⟩ : S29)) KB2.out hne2) hb3); have KE3 := Aside0.mk (blk_below (put29_at (y := (⟨t113, t114, t115, t116, t117⟩ : S29)) (z := (⟨t113, t114, t115, t116, t107⟩ : S29)) KE2.out) hb3); have HB3 := Aside0.mk ((put29_below (y := (⟨t113, t114, t115, t116, t117⟩ : S29)) HB2.out HB1.out.size).trans (hb3.mono (put29_below (y := (⟨t113, t114, t115, t116, t117⟩ : S29)) HB2.out HB1.out.size).size)); have ne3 : wq1.heap.size ≠ wq3.heap.size := Nat.ne_of_lt (blk_lt KE3.out); have nb3 := Aside0.mk (Nat.ne_of_lt (blk_lt KB3.out) : gb118 ≠ wq3.heap.size); clear hb3 KA2 KB2 KE2; clear q0 q1 q2 q3 q4 qf0 qf1 qf2 qf3 qf4; clear r0 r1 r2 r3 r4) | (go_at_call 50; (with_reducible refine (HandS.VersionSetPre.calls t113 t114 t115 t106 t117 a1 t113 t114 t115 t116 t117 true _ ?gl50A51 A51.out).mono ?_); (case gl50A51 => exact HandS.GlT.below HG.out (HB3.out.alloc HB3.out.size _)); rintro e wq4 ⟨rfl, hb4⟩; have KB4 := Aside0.mk (blk_below (heap_alloc KB3.out) hb4); have KE4 := Aside0.mk (blk_below (heap_alloc KE3.out) hb4); have KL4 := Aside0.mk (blk_below (heap_at (w := wq3) (.cells #[.int .u64 t113, .int .u64 t114, .int .u64 t115, .string t106, .string t117] 29)) hb4); have HB4 := Aside0.mk ((HB3.out.alloc HB3.out.size _).trans (hb4.mono (HB3.out.alloc HB3.out.size _).size)); clear hb4 KB3 KE3; have q0 : wq4.cell? ⟨wq3.heap.size, 0, none⟩ = some (.int .u64 t113) := (blk_cell KL4.out 0).trans rfl; have q1 : wq4.cell? ⟨wq3.heap.size, 1, none⟩ = some (.int .u64 t114) := (blk_cell KL4.out 1).trans rfl; have q2 : wq4.cell? ⟨wq3.heap.size, 2, none⟩ = some (.int .u64 t115) := (blk_cell KL4.out 2).trans rfl; have q3 : wq4.cell? ⟨wq3.heap.size, 3, none⟩ = some (.string t106) := (blk_cell KL4.out 3).trans rfl; have q4 : wq4.cell? ⟨wq3.heap.size, 4, none⟩ = some (.string t117) := (blk_cell KL4.out 4).trans rfl; have qf0 := blk_frozen KL4.out 0; have qf1 := blk_frozen KL4.out 1; have qf2 := blk_frozen KL4.out 2; have qf3 := blk_frozen KL4.out 3; have qf4 := blk_frozen KL4.out 4; have r0 : wq4.cell? ⟨wq1.heap.size, 0, none⟩ = some (.int .u64 t113) := (blk_cell KE4.out 0).trans rfl; have r1 : wq4.cell? ⟨wq1.heap.size, 1, none⟩ = some (.int .u64 t114) := (blk_cell KE4.out 1).trans rfl; have r2 : wq4.cell? ⟨wq1.heap.size, 2, none⟩ = some (.int .u64 t115) := (blk_cell KE4.out 2).trans rfl; have r3 : wq4.cell? ⟨wq1.heap.size, 3, none⟩ = some (.string t116) := (blk_cell KE4.out 3).trans rfl; have r4 : wq4.cell? ⟨wq1.heap.size, 4, none⟩ = some (.string t117) := (blk_cell KE4.out 4).trans rfl; have hne4 : gb118 ≠ wq3.heap.size := nb3.out) | (go_at_call 52; (with_reducible refine (HandS.VersionText.calls t113 t114 t115 t116 t117 t150 _ ?gl52A52 A52.out).mono ?_); (case gl52A52 => exact HandS.GlT.below HG.out (put29_below (y := (⟨t113, t114, t115, t116, t117⟩ : S29)) HB4.out HB3.out.size)); rintro e wq5 ⟨rfl, hb5⟩; have KB5 := Aside0.mk (blk_below (put29_far (y := (⟨t113, t114, t115, t116, t117⟩ : S29)) KB4.out hne4) hb5); have KE5 := Aside0.mk (blk_below (put29_far (y := (⟨t113, t114, t115, t116, t117⟩ : S29)) KE4.out ne3) hb5); have KL5 := Aside0.mk (blk_below (put29_at (y := (⟨t113, t114, t115, t116, t117⟩ : S29)) (z := (⟨t113, t114, t115, t106, t117⟩ : S29)) KL4.out) hb5); have HB5 := Aside0.mk ((put29_below (y := (⟨t113, t114, t115, t116, t117⟩ : S29)) HB4.out HB3.out.size).trans (hb5.mono (put29_below (y := (⟨t113, t114, t115, t116, t117⟩ : S29)) HB4.out HB3.out.size).size)); clear hb5 KB4 KE4 KL4; clear q0 q1 q2 q3 q4 qf0 qf1 qf2 qf3 qf4; clear r0 r1 r2 r3 r4) | (go_at_call 34; (with_reducible refine (HandS.StrictT.calls t150 t113 t114 t115 t116 t117 true _ (HandS.GlT.below HG.out HB5.out) A53v.out).mono ?_); rintro e wq6 ⟨rfl, hb6⟩; have KB6 := Aside0.mk (blk_below KB5.out hb6); have KE6 := Aside0.mk (blk_below KE5.out hb6); have KL6 := Aside0.mk (blk_below KL5.out hb6); have HB6 := Aside0.mk (HB5.out.trans (hb6.mono HB5.out.size)); clear hb6 KB5 KE5 KL5; have KE7 := Aside0.mk (heap_alloc (o := .cells #[.int .u64 t113, .int .u64 t114, .int .u64 t115, .string t116, .string t117] 29) KE6.out); have KL7 := Aside0.mk (heap_alloc (o := .cells #[.int .u64 t113, .int .u64 t114, .int .u64 t115, .string t116, .string t117] 29) KL6.out); have KB7 := Aside0.mk (heap_alloc (o := .cells #[.int .u64 t113, .int .u64 t114, .int .u64 t115, .string t116, .string t117] 29) KB6.out); clear KE6 KL6 KB6; have q0 : (wq6.alloc (.cells #[.int .u64 t113, .int .u64 t114, .int .u64 t115, .string t116, .string t117] 29)).cell? ⟨wq1.heap.size, 0, none⟩ = some (.int .u64 t113) := (blk_cell KE7.out 0).trans rfl; have q1 : (wq6.alloc (.cells #[.int .u64 t113, .int .u64 t114, .int .u64 t115, .string t116, .string t117] 29)).cell? ⟨wq1.heap.size, 1, none⟩ = some (.int .u64 t114) := (blk_cell KE7.out 1).trans rfl; have q2 : (wq6.alloc (.cells #[.int .u64 t113, .int .u64 t114, .int .u64 t115, .string t116, .string t117] 29)).cell? ⟨wq1.heap.size, 2, none⟩ = some (.int .u64 t115) := (blk_cell KE7.out 2).trans rfl; have q3 : (wq6.alloc (.cells #[.int .u64 t113, .int .u64 t114, .int .u64 t115, .string t116, .string t117] 29)).cell? ⟨wq1.heap.size, 3, none⟩ = some (.string t116) := (blk_cell KE7.out 3).trans rfl; have q4 : (wq6.alloc (.cells #[.int .u64 t113, .int .u64 t114, .int .u64 t115, .string t116, .string t117] 29)).cell? ⟨wq1.heap.size, 4, none⟩ = some (.string t117) := (blk_cell KE7.out 4).trans rfl; have r0 : (wq6.alloc (.cells #[.int .u64 t113, .int .u64 t114, .int .u64 t115, .string t116, .string t117] 29)).cell? ⟨wq3.heap.size, 0, none⟩ = some (.int .u64 t113) := (blk_cell KL7.out 0).trans rfl; have r1 : (wq6.alloc (.cells #[.int .u64 t113, .int .u64 t114, .int .u64 t115, .string t116, .string t117] 29)).cell? ⟨wq3.heap.size, 1, none⟩ = some (.int .u64 t114) := (blk_cell KL7.out 1).trans rfl; have r2 : (wq6.alloc (.cells #[.int .u64 t113, .int .u64 t114, .int .u64 t115, .string t116, .string t117] 29)).cell? ⟨wq3.heap.size, 2, none⟩ = some (.int .u64 t115) := (blk_cell KL7.out 2).trans rfl; have r3 : (wq6.alloc (.cells #[.int .u64 t113, .int .u64 t114, .int .u64 t115, .string t116, .string t117] 29)).cell? ⟨wq3.heap.size, 3, none⟩ = some (.string t116) := (blk_cell KL7.out 3).trans rfl; have r4 : (wq6.alloc (.cells #[.int .u64 t113, .int .u64 t114, .int .u64 t115, .string t116, .string t117] 29)).cell? ⟨wq3.heap.size, 4, none⟩ = some (.string t117) := (blk_cell KL7.out 4).trans rfl; have s0 : (wq6.alloc (.cells #[.int .u64 t113, .int .u64 t114, .int .u64 t115, .string t116, .string t117] 29)).cell? ⟨gb118, 0, none⟩ = some (.int .u64 t113) := (blk_cell KB7.out 0).trans rfl; have s1 : (wq6.alloc (.cells #[.int .u64 t113, .int .u64 t114, .int .u64 t115, .string t116, .string t117] 29)).cell? ⟨gb118, 1, none⟩ = some (.int .u64 t114) := (blk_cell KB7.out 1).trans rfl; have s2 : (wq6.alloc (.cells #[.int .u64 t113, .int .u64 t114, .int .u64 t115, .string t116, .string t117] 29)).cell? ⟨gb118, 2, none⟩ = some (.int .u64 t115) := (blk_cell KB7.out 2).trans rfl; have s3 : (wq6.alloc (.cells #[.int .u64 t113, .int .u64 t114, .int .u64 t115, .string t116, .string t117] 29)).cell? ⟨gb118, 3, none⟩ = some (.string t116) := (blk_cell KB7.out 3).trans rfl; have s4 : (wq6.alloc (.cells #[.int .u64 t113, .int .u64 t114, .int .u64 t115, .string t116, .string t117] 29)).cell? ⟨gb118, 4, none⟩ = some (.string t117) := (blk_cell KB7.out 4).trans rfl))
              go_ret
              exact ⟨rfl, HB6.out.alloc HB6.out.size _⟩

end
end Go.Proofs.YtalpehfjjidfhaaDoor.MU
