-- Written by a program of this session (wip/tools/myprint.py over the kit's print).
import Derived.Test.YtalpehfjjidfhaaDoorMNx0
import Derived.Test.YtalpehfjjidfhaaDoorMNx1
import Derived.Test.YtalpehfjjidfhaaDoorMNx2
import Derived.Test.YtalpehfjjidfhaaDoorMNx3
namespace Go.Proofs.YtalpehfjjidfhaaDoor.MN
open Go.RowKit Go.Proofs.YtalpehfjjidfhaaDoorW.PrintWords Go.Proofs.YtalpehfjjidfhaaDoorW.PrintLast Go.Proofs.YtalpehfjjidfhaaDoorW.PrintMore Go.Proofs.YtalpehfjjidfhaaDoor
attribute [local go_sem] max2_int min2_int max_two min_two max_three min_three max_four min_four   -- for this text's walks alone
set_option linter.unusedVariables false
set_option linter.unusedSimpArgs false

/-! ### laws_FnSemverPreNumbers: function 6 -/
mutual
def laws_FnSemverPreNumbers.j0 : Nat → ByteArray → Int → Int → Bool → Int → Int → Int → ByteArray → ByteArray → Option (Bool)
 | 0, _, _, _, _, _, _, _, _, _ => none
 | k + 1, x1, x2, x3, x18, x150000, x150001, x150002, x150003, x150004 => if x18 = true then (some true) else (if x1.toList = ([] : List UInt8) then (laws_FnSemverPreNumbers.j1 k x1 x2 x3 true x150000 x150001 x150002 x150003 x150004) else (if x2 > 9999999999999999999 then (laws_FnSemverPreNumbers.j1 k x1 x2 x3 true x150000 x150001 x150002 x150003 x150004) else (if x3 > 9999999999999999999 then (laws_FnSemverPreNumbers.j1 k x1 x2 x3 true x150000 x150001 x150002 x150003 x150004) else ((laws_svPre.f x150000 x150001 x150002 x150003 x150004 x1).bind fun bt151 => ((laws_svGood.f k (([(⟨bt151.1, bt151.2.1, bt151.2.2.1, bt151.2.2.2.1, bt151.2.2.2.2⟩ : S29)] : List (S29)))).bind fun t159 => (laws_FnSemverPreNumbers.j1 k x1 x2 x3 (!t159) x150000 x150001 x150002 x150003 x150004))))))
def laws_FnSemverPreNumbers.j1 : Nat → ByteArray → Int → Int → Bool → Int → Int → Int → ByteArray → ByteArray → Option (Bool)
 | 0, _, _, _, _, _, _, _, _, _ => none
 | k + 1, x1, x2, x3, x36, x150000, x150001, x150002, x150003, x150004 => if x36 = true then (some true) else (if x1.size + 1 ≤ 9223372036854775807 then ((spec_Decimal.f k x2).bind fun t160 => (if (x1 ++ (⟨#[46]⟩ : ByteArray)).size + t160.size ≤ 9223372036854775807 then ((laws_svPre.f x150000 x150001 x150002 x150003 x150004 ((x1 ++ (⟨#[46]⟩ : ByteArray)) ++ t160)).bind fun bt161 => ((spec_Decimal.f k x3).bind fun t166 => (if (x1 ++ (⟨#[46]⟩ : ByteArray)).size + t166.size ≤ 9223372036854775807 then ((laws_svPre.f x150000 x150001 x150002 x150003 x150004 ((x1 ++ (⟨#[46]⟩ : ByteArray)) ++ t166)).bind fun bt167 => ((Hand.VersionLess.f bt161.1 bt161.2.1 bt161.2.2.1 bt161.2.2.2.1 bt161.2.2.2.2 bt167.1 bt167.2.1 bt167.2.2.1 bt167.2.2.2.1 bt167.2.2.2.2).bind fun t174 => (if (t174 == (decide (x2 < x3))) = true then ((Hand.VersionEqual.f bt161.1 bt161.2.1 bt161.2.2.1 bt161.2.2.2.1 bt161.2.2.2.2 bt167.1 bt167.2.1 bt167.2.2.1 bt167.2.2.2.1 bt167.2.2.2.2).bind fun t175 => (some (t175 == (x2 == x3)))) else (some false)))) else (none)))) else (none))) else (none))
end
def laws_FnSemverPreNumbers.f (k : Nat) (a0_0 : Int) (a0_1 : Int) (a0_2 : Int) (a0_3 : ByteArray) (a0_4 : ByteArray) (a1 : ByteArray) (a2 : Int) (a3 : Int) : Option (Bool) := (laws_zzFits14.f a0_0 a0_1 a0_2 a0_3 a0_4).bind fun t150 => (if t150 = true then (laws_FnSemverPreNumbers.j0 k a1 a2 a3 (decide ((a1.size : Int) > 2147483647)) a0_0 a0_1 a0_2 a0_3 a0_4) else (laws_FnSemverPreNumbers.j0 k a1 a2 a3 true a0_0 a0_1 a0_2 a0_3 a0_4))
theorem laws_FnSemverPreNumbers.mono_l : ∀ k, (∀ y0 y1 y2 y3 y4 y5 y6 y7 y8, LeO (laws_FnSemverPreNumbers.j0 k y0 y1 y2 y3 y4 y5 y6 y7 y8) (laws_FnSemverPreNumbers.j0 (k + 1) y0 y1 y2 y3 y4 y5 y6 y7 y8)) ∧ (∀ y0 y1 y2 y3 y4 y5 y6 y7 y8, LeO (laws_FnSemverPreNumbers.j1 k y0 y1 y2 y3 y4 y5 y6 y7 y8) (laws_FnSemverPreNumbers.j1 (k + 1) y0 y1 y2 y3 y4 y5 y6 y7 y8))
 | 0 => ⟨fun _ _ _ _ _ _ _ _ _ r h => by simp [laws_FnSemverPreNumbers.j0] at h, fun _ _ _ _ _ _ _ _ _ r h => by simp [laws_FnSemverPreNumbers.j1] at h⟩
 | k + 1 => by
  obtain ⟨ih0, ih1⟩ := laws_FnSemverPreNumbers.mono_l k
  refine ⟨?_, ?_⟩
  ·
   intro y0 y1 y2 y3 y4 y5 y6 y7 y8
   unfold laws_FnSemverPreNumbers.j0
   repeat' first
   | (with_reducible exact ih0 _ _ _ _ _ _ _ _ _)
   | (with_reducible exact ih1 _ _ _ _ _ _ _ _ _)
   | (with_reducible exact laws_svGood.mono _ _)
   | (with_reducible exact spec_Decimal.mono _ _)
   | (with_reducible exact LeO.refl _)
   | (with_reducible exact LeO.none _)
   | (with_reducible refine LeO.ite ?_ ?_)
   | (with_reducible refine LeO.bind ?_ (fun _ => ?_))
   | exact ih0 _ _ _ _ _ _ _ _ _
   | exact ih1 _ _ _ _ _ _ _ _ _
   | exact laws_svGood.mono _ _
   | exact spec_Decimal.mono _ _
   | exact LeO.none _
   | refine LeO.ite ?_ ?_
   | refine LeO.bind ?_ (fun _ => ?_)
  ·
   intro y0 y1 y2 y3 y4 y5 y6 y7 y8
   unfold laws_FnSemverPreNumbers.j1
   repeat' first
   | (with_reducible exact ih0 _ _ _ _ _ _ _ _ _)
   | (with_reducible exact ih1 _ _ _ _ _ _ _ _ _)
   | (with_reducible exact laws_svGood.mono _ _)
   | (with_reducible exact spec_Decimal.mono _ _)
   | (with_reducible exact LeO.refl _)
   | (with_reducible exact LeO.none _)
   | (with_reducible refine LeO.ite ?_ ?_)
   | (with_reducible refine LeO.bind ?_ (fun _ => ?_))
   | exact ih0 _ _ _ _ _ _ _ _ _
   | exact ih1 _ _ _ _ _ _ _ _ _
   | exact laws_svGood.mono _ _
   | exact spec_Decimal.mono _ _
   | exact LeO.none _
   | refine LeO.ite ?_ ?_
   | refine LeO.bind ?_ (fun _ => ?_)
theorem laws_FnSemverPreNumbers.mono : ∀ a0 a1 a2 a3 a4 a5 a6 a7 k, LeO (laws_FnSemverPreNumbers.f k a0 a1 a2 a3 a4 a5 a6 a7) (laws_FnSemverPreNumbers.f (k + 1) a0 a1 a2 a3 a4 a5 a6 a7) := by
 intro a0 a1 a2 a3 a4 a5 a6 a7 k
 obtain ⟨ih0, ih1⟩ := laws_FnSemverPreNumbers.mono_l k
 unfold laws_FnSemverPreNumbers.f
 repeat' first
   | (with_reducible exact ih0 _ _ _ _ _ _ _ _ _)
   | (with_reducible exact ih1 _ _ _ _ _ _ _ _ _)
   | (with_reducible exact laws_svGood.mono _ _)
   | (with_reducible exact spec_Decimal.mono _ _)
   | (with_reducible exact LeO.refl _)
   | (with_reducible exact LeO.none _)
   | (with_reducible refine LeO.ite ?_ ?_)
   | (with_reducible refine LeO.bind ?_ (fun _ => ?_))
   | exact ih0 _ _ _ _ _ _ _ _ _
   | exact ih1 _ _ _ _ _ _ _ _ _
   | exact laws_svGood.mono _ _
   | exact spec_Decimal.mono _ _
   | exact LeO.none _
   | refine LeO.ite ?_ ?_
   | refine LeO.bind ?_ (fun _ => ?_)
def laws_FnSemverPreNumbers.T5 : Bool × List (List Nat × List Nat) := (true, [([], []), ([], []), ([1], [1]), ([], []), ([3], [3]), ([2, 4], [2, 4]), ([0, 5, 4], [0, 5]), ([], []), ([], []), ([8], [8]), ([], []), ([10, 6], [10]), ([9, 11], [9, 11]), ([7, 12, 11], [7, 12]), ([], []), ([], []), ([14, 6, 13, 0, 1, 2, 3, 4, 5, 6, 14, 15], [6, 14]), ([15, 13, 16, 0, 1, 2, 3, 4, 5, 6, 7, 8, 9, 10, 11, 12, 13, 14, 15, 16], [13, 15])])
def laws_FnSemverPreNumbers.B5 : List Nat := [0, 0, 2, 0, 8, 30, 63, 0, 0, 256, 0, 1151, 3967, 8191, 0, 0, 65535, 131071]
theorem laws_FnSemverPreNumbers.tab5 : rtab .any (opsOf Tryd.f6 5) = laws_FnSemverPreNumbers.T5 := by kernel_rfl
theorem laws_FnSemverPreNumbers.bits5 : waitsOk laws_FnSemverPreNumbers.T5.2 laws_FnSemverPreNumbers.B5 = true := by kernel_rfl
theorem set5 {w : World} {g : Nat} {t : TypeId} {z0 z1 z2 z3 z4 : Value} (x0 x1 x2 x3 x4 : Value) (h : w.heap[g]? = some (.cells #[z0, z1, z2, z3, z4] t (0, 0))) : (((((w.setCell ⟨g, 0, none⟩ x0).setCell ⟨g, 1, none⟩ x1).setCell ⟨g, 2, none⟩ x2).setCell ⟨g, 3, none⟩ x3).setCell ⟨g, 4, none⟩ x4).heap[g]? = some (.cells #[x0, x1, x2, x3, x4] t (0, 0)) := by
  have h0 : (w.setCell ⟨g, 0, none⟩ x0).heap[g]? = some (.cells #[x0, z1, z2, z3, z4] t (0, 0)) := blk_put h 0 x0 (by simp)
  have h1 := blk_put h0 1 x1 (cs' := #[x0, x1, z2, z3, z4]) (by simp)
  have h2 := blk_put h1 2 x2 (cs' := #[x0, x1, x2, z3, z4]) (by simp)
  have h3 := blk_put h2 3 x3 (cs' := #[x0, x1, x2, x3, z4]) (by simp)
  exact blk_put h3 4 x4 (cs' := #[x0, x1, x2, x3, x4]) (by simp)

theorem far5 {w : World} {g g' : Nat} {t : TypeId} {cs : Array Value} (x0 x1 x2 x3 x4 : Value) (h : w.heap[g']? = some (.cells cs t (0, 0))) (hne : g' ≠ g) : (((((w.setCell ⟨g, 0, none⟩ x0).setCell ⟨g, 1, none⟩ x1).setCell ⟨g, 2, none⟩ x2).setCell ⟨g, 3, none⟩ x3).setCell ⟨g, 4, none⟩ x4).heap[g']? = some (.cells cs t (0, 0)) :=
  blk_far (blk_far (blk_far (blk_far (blk_far h hne x0) hne x1) hne x2) hne x3) hne x4

theorem below5 {w v : World} {g : Nat} (x0 x1 x2 x3 x4 : Value) (h : Below w.heap.size w v) (hg : w.heap.size ≤ g) : Below w.heap.size w (((((v.setCell ⟨g, 0, none⟩ x0).setCell ⟨g, 1, none⟩ x1).setCell ⟨g, 2, none⟩ x2).setCell ⟨g, 3, none⟩ x3).setCell ⟨g, 4, none⟩ x4) :=
  below_set (below_set (below_set (below_set (below_set h hg) hg) hg) hg) hg

theorem fin10 {w v : World} {g0 g1 g2 : Nat} {t t' t'' : TypeId} {cs : Array Value} {G : World → Prop} {z0 z1 z2 z3 z4 u0 u1 u2 u3 u4 : Value} (x0 x1 x2 x3 x4 y0 y1 y2 y3 y4 : Value)
    (h0 : v.heap[g0]? = some (.cells cs t'' (0, 0))) (h1 : v.heap[g1]? = some (.cells #[z0, z1, z2, z3, z4] t (0, 0))) (h2 : v.heap[g2]? = some (.cells #[u0, u1, u2, u3, u4] t' (0, 0)))
    (n01 : g0 ≠ g1) (n02 : g0 ≠ g2) (n12 : g1 ≠ g2) (e1 : w.heap.size ≤ g1) (e2 : w.heap.size ≤ g2) (hB : Below w.heap.size w v)
    (K : ∀ V : World, V.heap[g0]? = some (.cells cs t'' (0, 0)) → V.heap[g1]? = some (.cells #[x0, x1, x2, x3, x4] t (0, 0)) → V.heap[g2]? = some (.cells #[y0, y1, y2, y3, y4] t' (0, 0)) → Below w.heap.size w V → G V) :
    G ((((((((((v.setCell ⟨g1, 0, none⟩ x0).setCell ⟨g1, 1, none⟩ x1).setCell ⟨g1, 2, none⟩ x2).setCell ⟨g1, 3, none⟩ x3).setCell ⟨g1, 4, none⟩ x4).setCell ⟨g2, 0, none⟩ y0).setCell ⟨g2, 1, none⟩ y1).setCell ⟨g2, 2, none⟩ y2).setCell ⟨g2, 3, none⟩ y3).setCell ⟨g2, 4, none⟩ y4) :=
  K _ (far5 _ _ _ _ _ (far5 _ _ _ _ _ h0 n01) n02) (far5 _ _ _ _ _ (set5 x0 x1 x2 x3 x4 h1) n12) (set5 y0 y1 y2 y3 y4 (far5 _ _ _ _ _ h2 (Ne.symm n12))) (below5 _ _ _ _ _ (below5 _ _ _ _ _ hB e1) e2)

/-- What the comparison says of the two prereleases. -/
def Tame (a0_0 a0_1 a0_2 : Int) (a0_3 a0_4 a1 : ByteArray) (a2 a3 : Int) : Prop := ∀ (k : Nat) (t160 t166 : ByteArray) (t161 t162 t163 : Int) (t164 t165 : ByteArray) (t167 t168 t169 : Int) (t170 t171 : ByteArray) (t174 : Bool),
 spec_Decimal.f k a2 = some t160 → laws_svPre.f a0_0 a0_1 a0_2 a0_3 a0_4 ((a1 ++ (⟨#[46]⟩ : ByteArray)) ++ t160) = some (t161, t162, t163, t164, t165) → spec_Decimal.f k a3 = some t166 → laws_svPre.f a0_0 a0_1 a0_2 a0_3 a0_4 ((a1 ++ (⟨#[46]⟩ : ByteArray)) ++ t166) = some (t167, t168, t169, t170, t171) →
 Hand.VersionLess.f t161 t162 t163 t164 t165 t167 t168 t169 t170 t171 = some t174 → (t174 == (decide (a2 < a3))) = true
set_option maxHeartbeats 8000000 in
set_option maxRecDepth 100000 in
theorem laws_FnSemverPreNumbers.calls (k : Nat) (a0_0 : Int) (a0_1 : Int) (a0_2 : Int) (a0_3 : ByteArray) (a0_4 : ByteArray) (a1 : ByteArray) (a2 : Int) (a3 : Int) (r : Bool) (w : World) (hG0 : Hand.Gl w) (hP : Tame a0_0 a0_1 a0_2 a0_3 a0_4 a1 a2 a3) (h : laws_FnSemverPreNumbers.f k a0_0 a0_1 a0_2 a0_3 a0_4 a1 a2 a3 = some r) :
  Calls Tryd.prog 6 #[.agg #[.int .u64 a0_0, .int .u64 a0_1, .int .u64 a0_2, .string a0_3, .string a0_4], .string a1, .int .u64 a2, .int .u64 a3] w fun e w' => e = .returned (.bool r) ∧ Below w.heap.size w w' := by
 have HG := Aside0.mk hG0
 clear hG0
 have HPW := Aside0.mk hP
 clear hP
 have hu29 := Tryd.underlying29
 have HB := Aside0.mk (Below.refl w.heap.size w)
 have H : ((laws_zzFits14.f a0_0 a0_1 a0_2 a0_3 a0_4).bind fun t150 => (if t150 = true then (laws_FnSemverPreNumbers.j0 k a1 a2 a3 (decide ((a1.size : Int) > 2147483647)) a0_0 a0_1 a0_2 a0_3 a0_4) else (laws_FnSemverPreNumbers.j0 k a1 a2 a3 true a0_0 a0_1 a0_2 a0_3 a0_4))) = some r := h
 clear h
 have HC5 := Aside0.mk H
 clear H
 go_enter Tryd.func6, Tryd.ntmps6
 go_upto_region 1 with (first | ((with_reducible refine gate_dst (N := 4) rfl ?_); (try (refine gate_guard (by rfl) ?_; dsimp only)); refine box_event ?hg (N := 4) ?hd (cs := #[.int .u64 a0_0, .int .u64 a0_1, .int .u64 a0_2, .string a0_3, .string a0_4]) (t := 29) ?hr ?_; (case hd => rfl); (case hg => rfl); (case hr => first | (go_simp; done) | (go_simp; rfl)); intro gb149 hg w6 hbox hb; have n0_ := Aside0.mk (below_step (by repeat (first | (with_reducible first | exact HB.out | apply below_alloc | apply pw_below_drewN | apply below_drew1) | exact HB.out)) hb); have n1_ := Aside0.mk (hbox); have n2_ := Aside0.mk ((by rw [hg]; exact (below_size (by repeat (first | (with_reducible first | exact HB.out | apply below_alloc | apply pw_below_drewN | apply below_drew1) | exact HB.out))) : w.heap.size ≤ gb149)); have n3_ := Aside0.mk ((by rw [hg]; exact (below_size (by repeat (first | (with_reducible first | exact HB.out | apply below_alloc | apply pw_below_drewN | apply below_drew1) | exact HB.out))) : w.heap.size ≤ gb149)); clear HB; have HB := n0_; have BK149 := n1_; have GW149 := n2_; have GE149 := n3_; clear n0_ n1_ n2_ n3_; clear hb hbox hg))
 (try simp only [Act.put, List.setIfInBounds_toArray, List.set_cons_zero, List.set_cons_succ])
 go_cut [18] (fun v18 wc => ∃ (kq : Nat) (x18_4 : Bool), v18 = .bool x18_4 ∧ Aside0 (laws_FnSemverPreNumbers.j0 kq a1 a2 a3 x18_4 a0_0 a0_1 a0_2 a0_3 a0_4 = some r) ∧ Aside0 (kq ≤ k) ∧ Aside0 (wc.heap[gb149]? = some (.cells #[.int .u64 a0_0, .int .u64 a0_1, .int .u64 a0_2, .string a0_3, .string a0_4] 29 (0, 0))) ∧ Aside0 (Below w.heap.size w wc))
 case first =>
  have H := HC5.out
  clear HC5
  replace H := Option.bind_eq_some_iff.mp H
  obtain ⟨t150, A70, H⟩ := H
  replace H : (if t150 = true then (laws_FnSemverPreNumbers.j0 k a1 a2 a3 (decide ((a1.size : Int) > 2147483647)) a0_0 a0_1 a0_2 a0_3 a0_4) else (laws_FnSemverPreNumbers.j0 k a1 a2 a3 true a0_0 a0_1 a0_2 a0_3 a0_4)) = some r := H
  have A7 := Aside0.mk A70
  clear A70
  by_cases c8 : t150 = true
  ·
   subst c8
   have H1 : (laws_FnSemverPreNumbers.j0 k a1 a2 a3 (decide ((a1.size : Int) > 2147483647)) a0_0 a0_1 a0_2 a0_3 a0_4) = some r := by rw [if_pos rfl] at H; exact H
   clear H
   have H := H1
   clear H1
   have H' := Aside0.mk H
   clear H
   have hcz9_0 : w6.cell? ⟨gb149, 0, none⟩ = some (.int .u64 a0_0) := (blk_cell BK149.out 0).trans rfl
   have hcz9_1 : w6.cell? ⟨gb149, 1, none⟩ = some (.int .u64 a0_1) := (blk_cell BK149.out 1).trans rfl
   have hcz9_2 : w6.cell? ⟨gb149, 2, none⟩ = some (.int .u64 a0_2) := (blk_cell BK149.out 2).trans rfl
   have hcz9_3 : w6.cell? ⟨gb149, 3, none⟩ = some (.string a0_3) := (blk_cell BK149.out 3).trans rfl
   have hcz9_4 : w6.cell? ⟨gb149, 4, none⟩ = some (.string a0_4) := (blk_cell BK149.out 4).trans rfl
   have hfz9_0 := blk_frozen BK149.out 0
   have hfz9_1 := blk_frozen BK149.out 1
   have hfz9_2 := blk_frozen BK149.out 2
   have hfz9_3 := blk_frozen BK149.out 3
   have hfz9_4 := blk_frozen BK149.out 4
   go_wp2_with (first | ((with_reducible refine gate_callee (f := 25) rfl ?_); refine goesL_ (some 12) rfl rfl Tryd.func25 (by kernel_rfl) rfl #[.agg #[.int .u64 a0_0, .int .u64 a0_1, .int .u64 a0_2, .string a0_3, .string a0_4]] rfl (by (try simp only [List.map_toArray, List.map_cons, List.map_nil]); first | done | rfl | (simp only [List.length_drop, List.length_take]; rfl)) ?_; (with_reducible refine (laws_zzFits14.calls a0_0 a0_1 a0_2 a0_3 a0_4 true _ A7.out).mono ?_); rintro e w10 ⟨rfl, hb⟩; refine ⟨_, rfl, ?_⟩; have n0_ := Aside0.mk (blk_below (by (with_reducible repeat (first | refine blk_drewN ?_ _ | refine blk_drew ?_ | refine blk_alloc ?_ _)); exact BK149.out) hb); have n1_ := Aside0.mk (below_step (by repeat (first | (with_reducible first | exact HB.out | apply below_alloc | apply pw_below_drewN | apply below_drew1 | refine below_set ?_ GE149.out) | exact HB.out)) hb); clear BK149; clear HB; have BK149 := n0_; have HB := n1_; clear n0_ n1_; (try clear hb); (try clear hb2); (try clear hk); (try clear hi)))
   go_meet
   case rel => exact ⟨_, (decide ((a1.size : Int) > 2147483647)), (by first | rfl | (simp; done) | (simp [*]; done)), H', ⟨by first | omega | exact Nat.le_refl _⟩, ⟨by (with_reducible repeat (first | refine blk_drewN ?_ _ | refine blk_drew ?_ | refine blk_alloc ?_ _)); exact BK149.out⟩, ⟨by repeat (first | (with_reducible first | exact HB.out | apply below_alloc | apply pw_below_drewN | apply below_drew1 | refine below_set ?_ GE149.out) | exact HB.out)⟩⟩
  ·
   replace c8 := Bool.eq_false_iff.mpr c8
   subst c8
   have H1 : (laws_FnSemverPreNumbers.j0 k a1 a2 a3 true a0_0 a0_1 a0_2 a0_3 a0_4) = some r := by rw [if_neg (show ¬ (false = true) by decide)] at H; exact H
   clear H
   have H := H1
   clear H1
   have H' := Aside0.mk H
   clear H
   have hcz11_0 : w6.cell? ⟨gb149, 0, none⟩ = some (.int .u64 a0_0) := (blk_cell BK149.out 0).trans rfl
   have hcz11_1 : w6.cell? ⟨gb149, 1, none⟩ = some (.int .u64 a0_1) := (blk_cell BK149.out 1).trans rfl
   have hcz11_2 : w6.cell? ⟨gb149, 2, none⟩ = some (.int .u64 a0_2) := (blk_cell BK149.out 2).trans rfl
   have hcz11_3 : w6.cell? ⟨gb149, 3, none⟩ = some (.string a0_3) := (blk_cell BK149.out 3).trans rfl
   have hcz11_4 : w6.cell? ⟨gb149, 4, none⟩ = some (.string a0_4) := (blk_cell BK149.out 4).trans rfl
   have hfz11_0 := blk_frozen BK149.out 0
   have hfz11_1 := blk_frozen BK149.out 1
   have hfz11_2 := blk_frozen BK149.out 2
   have hfz11_3 := blk_frozen BK149.out 3
   have hfz11_4 := blk_frozen BK149.out 4
   go_wp2_with (first | ((with_reducible refine gate_callee (f := 25) rfl ?_); refine goesL_ (some 12) rfl rfl Tryd.func25 (by kernel_rfl) rfl #[.agg #[.int .u64 a0_0, .int .u64 a0_1, .int .u64 a0_2, .string a0_3, .string a0_4]] rfl (by (try simp only [List.map_toArray, List.map_cons, List.map_nil]); first | done | rfl | (simp only [List.length_drop, List.length_take]; rfl)) ?_; (with_reducible refine (laws_zzFits14.calls a0_0 a0_1 a0_2 a0_3 a0_4 false _ A7.out).mono ?_); rintro e w12 ⟨rfl, hb⟩; refine ⟨_, rfl, ?_⟩; have n0_ := Aside0.mk (blk_below (by (with_reducible repeat (first | refine blk_drewN ?_ _ | refine blk_drew ?_ | refine blk_alloc ?_ _)); exact BK149.out) hb); have n1_ := Aside0.mk (below_step (by repeat (first | (with_reducible first | exact HB.out | apply below_alloc | apply pw_below_drewN | apply below_drew1 | refine below_set ?_ GE149.out) | exact HB.out)) hb); clear BK149; clear HB; have BK149 := n0_; have HB := n1_; clear n0_ n1_; (try clear hb); (try clear hb2); (try clear hk); (try clear hi)))
   go_meet
   case rel => exact ⟨_, (true), (by first | rfl | (simp; done) | (simp [*]; done)), H', ⟨by first | omega | exact Nat.le_refl _⟩, ⟨by (with_reducible repeat (first | refine blk_drewN ?_ _ | refine blk_drew ?_ | refine blk_alloc ?_ _)); exact BK149.out⟩, ⟨by repeat (first | (with_reducible first | exact HB.out | apply below_alloc | apply pw_below_drewN | apply below_drew1 | refine below_set ?_ GE149.out) | exact HB.out)⟩⟩
 case rest =>
  clear HC5
  try clear c2
  try clear p2
  try clear c6
  try clear c8
  try clear hcz11_0
  try clear hcz11_1
  try clear hcz11_2
  try clear hcz11_3
  try clear hcz11_4
  try clear hcz9_0
  try clear hcz9_1
  try clear hcz9_2
  try clear hcz9_3
  try clear hcz9_4
  try clear hfz11_0
  try clear hfz11_1
  try clear hfz11_2
  try clear hfz11_3
  try clear hfz11_4
  try clear hfz9_0
  try clear hfz9_1
  try clear hfz9_2
  try clear hfz9_3
  try clear hfz9_4
  obtain ⟨kq, x18_4, rfl, HA, HJ4, BK149, HB⟩ := hcut
  cases kq with
  | zero => exact absurd HA.out (by simp [laws_FnSemverPreNumbers.j0])
  | succ kj4 =>
   have H := HA.out
   clear HA
   simp only [laws_FnSemverPreNumbers.j0] at H
   by_cases c13 : x18_4 = true
   ·
    subst c13
    have H1 : (some true) = some r := by rw [if_pos rfl] at H; exact H
    clear H
    have H := H1
    clear H1
    obtain rfl := Option.some.inj H
    go_wp2
    go_ret
    exact ⟨by first | rfl | (simp [errW_none, errW_some] <;> rfl) | (simp [*, errW_none, errW_some] <;> rfl), by repeat (first | (with_reducible first | exact HB.out | apply below_alloc | apply pw_below_drewN | apply below_drew1 | refine below_set ?_ GE149.out) | exact HB.out)⟩
   ·
    replace c13 := Bool.eq_false_iff.mpr c13
    subst c13
    have H1 : (if a1.toList = ([] : List UInt8) then (laws_FnSemverPreNumbers.j1 kj4 a1 a2 a3 true a0_0 a0_1 a0_2 a0_3 a0_4) else (if a2 > 9999999999999999999 then (laws_FnSemverPreNumbers.j1 kj4 a1 a2 a3 true a0_0 a0_1 a0_2 a0_3 a0_4) else (if a3 > 9999999999999999999 then (laws_FnSemverPreNumbers.j1 kj4 a1 a2 a3 true a0_0 a0_1 a0_2 a0_3 a0_4) else ((laws_svPre.f a0_0 a0_1 a0_2 a0_3 a0_4 a1).bind fun bt151 => ((laws_svGood.f kj4 (([(⟨bt151.1, bt151.2.1, bt151.2.2.1, bt151.2.2.2.1, bt151.2.2.2.2⟩ : S29)] : List (S29)))).bind fun t159 => (laws_FnSemverPreNumbers.j1 kj4 a1 a2 a3 (!t159) a0_0 a0_1 a0_2 a0_3 a0_4)))))) = some r := by rw [if_neg (show ¬ (false = true) by decide)] at H; exact H
    clear H
    have H := H1
    clear H1
    have HC14 := Aside0.mk H
    clear H
    go_upto_region 3 with (fail)
    go_cut [36] (fun v36 wc => ∃ (kq : Nat) (x36_13 : Bool), v36 = .bool x36_13 ∧ Aside0 (laws_FnSemverPreNumbers.j1 kq a1 a2 a3 x36_13 a0_0 a0_1 a0_2 a0_3 a0_4 = some r) ∧ Aside0 (kq ≤ kj4) ∧ Aside0 (wc.heap[gb149]? = some (.cells #[.int .u64 a0_0, .int .u64 a0_1, .int .u64 a0_2, .string a0_3, .string a0_4] 29 (0, 0))) ∧ Aside0 (Below w.heap.size w wc))
    case first =>
     have H := HC14.out
     clear HC14
     by_cases c15 : a1.toList = ([] : List UInt8)
     ·
      rw [if_pos c15] at H
      have c15b0 : (a1.toList == ([] : List UInt8)) = true := beq_iff_eq.mpr c15
      have c15b1 : (a1.toList != ([] : List UInt8)) = false := bne_eq_false_iff_eq.mpr c15
      clear c15
      (first | rw [c15b0] | (simp only [i64_w, i32_w]; rw [c15b0]) | skip)
      have H' := Aside0.mk H
      clear H
      go_wp2
      go_meet
      case rel => exact ⟨_, (true), (by first | rfl | (simp; done) | (simp [*]; done)), H', ⟨by have := HJ4.out; first | omega | exact Nat.le_refl _⟩, ⟨by (with_reducible repeat (first | refine blk_drewN ?_ _ | refine blk_drew ?_ | refine blk_alloc ?_ _)); exact BK149.out⟩, ⟨by repeat (first | (with_reducible first | exact HB.out | apply below_alloc | apply pw_below_drewN | apply below_drew1 | refine below_set ?_ GE149.out) | exact HB.out)⟩⟩
     ·
      rw [if_neg c15] at H
      have c15b0 : (a1.toList == ([] : List UInt8)) = false := beq_eq_false_iff_ne.mpr c15
      have c15b1 : (a1.toList != ([] : List UInt8)) = true := bne_iff_ne.mpr c15
      (first | rw [c15b0] | (simp only [i64_w, i32_w]; rw [c15b0]) | skip)
      by_cases c16 : a2 > 9999999999999999999
      ·
       rw [if_pos c16] at H
       have c16b0 : decide (9999999999999999999 < a2) = true := decide_eq_true c16
       clear c16
       have H' := Aside0.mk H
       clear H
       go_wp2
       go_meet
       case rel => exact ⟨_, (true), (by first | rfl | (simp; done) | (simp [*]; done)), H', ⟨by have := HJ4.out; first | omega | exact Nat.le_refl _⟩, ⟨by (with_reducible repeat (first | refine blk_drewN ?_ _ | refine blk_drew ?_ | refine blk_alloc ?_ _)); exact BK149.out⟩, ⟨by repeat (first | (with_reducible first | exact HB.out | apply below_alloc | apply pw_below_drewN | apply below_drew1 | refine below_set ?_ GE149.out) | exact HB.out)⟩⟩
      ·
       rw [if_neg c16] at H
       have c16b0 : decide (9999999999999999999 < a2) = false := decide_eq_false c16
       clear c16
       by_cases c17 : a3 > 9999999999999999999
       ·
        rw [if_pos c17] at H
        have c17b0 : decide (9999999999999999999 < a3) = true := decide_eq_true c17
        clear c17
        have H' := Aside0.mk H
        clear H
        go_wp2
        go_meet
        case rel => exact ⟨_, (true), (by first | rfl | (simp; done) | (simp [*]; done)), H', ⟨by have := HJ4.out; first | omega | exact Nat.le_refl _⟩, ⟨by (with_reducible repeat (first | refine blk_drewN ?_ _ | refine blk_drew ?_ | refine blk_alloc ?_ _)); exact BK149.out⟩, ⟨by repeat (first | (with_reducible first | exact HB.out | apply below_alloc | apply pw_below_drewN | apply below_drew1 | refine below_set ?_ GE149.out) | exact HB.out)⟩⟩
       ·
        rw [if_neg c17] at H
        have c17b0 : decide (9999999999999999999 < a3) = false := decide_eq_false c17
        clear c17
        replace H := Option.bind_eq_some_iff.mp H
        obtain ⟨⟨t151, t152, t153, t154, t155⟩, A180, H⟩ := H
        replace H : ((laws_svGood.f kj4 (([(⟨t151, t152, t153, t154, t155⟩ : S29)] : List (S29)))).bind fun t159 => (laws_FnSemverPreNumbers.j1 kj4 a1 a2 a3 (!t159) a0_0 a0_1 a0_2 a0_3 a0_4)) = some r := H
        have A18 := Aside0.mk A180
        clear A180
        obtain ⟨y156, hy156⟩ : ∃ y_ : List (S29), y_ = (([(⟨t151, t152, t153, t154, t155⟩ : S29)] : List (S29))) := ⟨_, rfl⟩
        replace H : ((laws_svGood.f kj4 y156).bind fun t159 => (laws_FnSemverPreNumbers.j1 kj4 a1 a2 a3 (!t159) a0_0 a0_1 a0_2 a0_3 a0_4)) = some r := by first | (rw [hy156]; with_reducible exact H) | (have H2_ := (Option.bind_some _ _).symm.trans H; rw [hy156]; with_reducible exact H2_) | (have H2_ := (Option.bind_some _ _).symm.trans H; with_reducible exact H2_) | with_reducible exact H | (rw [hy156]; exact H) | exact H
        have Ny156 := Aside0.mk hy156
        clear hy156
        replace H := Option.bind_eq_some_iff.mp H
        obtain ⟨t159, A190, H⟩ := H
        replace H : (laws_FnSemverPreNumbers.j1 kj4 a1 a2 a3 (!t159) a0_0 a0_1 a0_2 a0_3 a0_4) = some r := H
        have A19 := Aside0.mk A190
        clear A190
        have H' := Aside0.mk H
        clear H
        have hcz20_0 : wc.cell? ⟨gb149, 0, none⟩ = some (.int .u64 a0_0) := (blk_cell BK149.out 0).trans rfl
        have hcz20_1 : wc.cell? ⟨gb149, 1, none⟩ = some (.int .u64 a0_1) := (blk_cell BK149.out 1).trans rfl
        have hcz20_2 : wc.cell? ⟨gb149, 2, none⟩ = some (.int .u64 a0_2) := (blk_cell BK149.out 2).trans rfl
        have hcz20_3 : wc.cell? ⟨gb149, 3, none⟩ = some (.string a0_3) := (blk_cell BK149.out 3).trans rfl
        have hcz20_4 : wc.cell? ⟨gb149, 4, none⟩ = some (.string a0_4) := (blk_cell BK149.out 4).trans rfl
        have hfz20_0 := blk_frozen BK149.out 0
        have hfz20_1 := blk_frozen BK149.out 1
        have hfz20_2 := blk_frozen BK149.out 2
        have hfz20_3 := blk_frozen BK149.out 3
        have hfz20_4 := blk_frozen BK149.out 4
        go_wp2_with (first | (go_at_call 29; (with_reducible refine (laws_svPre.calls a0_0 a0_1 a0_2 a0_3 a0_4 a1 t151 t152 t153 t154 t155 _ A18.out).mono ?_); rintro e w21 ⟨rfl, hb⟩; have n0_ := Aside0.mk (blk_below (by (with_reducible repeat (first | refine blk_drewN ?_ _ | refine blk_drew ?_ | refine blk_alloc ?_ _)); exact BK149.out) hb); have n1_ := Aside0.mk (below_step (by repeat (first | (with_reducible first | exact HB.out | apply below_alloc | apply pw_below_drewN | apply below_drew1 | refine below_set ?_ GE149.out) | exact HB.out)) hb); clear BK149; clear HB; have BK149 := n0_; have HB := n1_; clear n0_ n1_; (try clear hb); (try clear hb2); (try clear hk); (try clear hi)) | ((with_reducible refine gate_dst (N := 33) rfl ?_); (try (refine gate_guard (by rfl) ?_; dsimp only)); refine Kd.R_lit k29 _ 29 ?hg (N := 33) ?hd (xs := ([(⟨t151, t152, t153, t154, t155⟩ : S29)] : List (S29))) (inner := [.int .u64 t151, .int .u64 t152, .int .u64 t153, .string t154, .string t155]) (ok := fun _ => True) (okp := fun _ => True) ?hr ?hp (fun _ hk => hk) trivial (Below.refl _ _) (Nat.le_refl _) (by simp) ?_; (case hd => rfl); (case hg => rfl); (case hr => first | (go_simp; done) | (go_simp; rfl)); (case hp => exact (Reps.c5 (show Kd.M k29 _ _ _ (⟨t151, t152, t153, t154, t155⟩ : S29) [.int .u64 t151, .int .u64 t152, .int .u64 t153, .string t154, .string t155] from (k29_mkM _ _ _ (⟨t151, t152, t153, t154, t155⟩ : S29) )) (Reps.none _ _))); intro v157 w22 ho23 hb hg_ hnew_; clear hg_ hnew_; (first | rw [← Ny156.out] at ho23 | (simp only [Int.reduceToNat] at ho23; rw [← Ny156.out] at ho23)); have n0_ := Aside0.mk (Kd.R_lower (Kd.R_newB ho23 (g := gb149) (o := .cells #[.int .u64 a0_0, .int .u64 a0_1, .int .u64 a0_2, .string a0_3, .string a0_4] 29 (0, 0)) (by (with_reducible repeat (first | refine blk_drewN ?_ _ | refine blk_drew ?_ | refine blk_alloc ?_ _)); exact BK149.out)) (below_size (by repeat (first | (with_reducible first | exact HB.out | apply below_alloc | apply pw_below_drewN | apply below_drew1 | refine below_set ?_ GE149.out) | exact HB.out)))); have n1_ := Aside0.mk (blk_below (by (with_reducible repeat (first | refine blk_drewN ?_ _ | refine blk_drew ?_ | refine blk_alloc ?_ _)); exact BK149.out) hb); have n2_ := Aside0.mk (below_step (by repeat (first | (with_reducible first | exact HB.out | apply below_alloc | apply pw_below_drewN | apply below_drew1 | refine below_set ?_ GE149.out) | exact HB.out)) hb); clear BK149; clear HB; have HO158 := n0_; have BK149 := n1_; have HB := n2_; clear n0_ n1_ n2_; clear hb ho23; obtain ⟨Ao24, co24, eo24⟩ := Kd.R_slice HO158.out; subst eo24) | (go_at_call 26; (with_reducible refine (laws_svGood.calls kj4 _ _ y156 t159 _ ?side1 ?side2 A19.out).mono ?_); (case side1 => repeat (first | exact (Kd.R_reads' HO158.out).2.2 | (with_reducible refine Kd.C_alloc ?_ _) | (with_reducible refine Kd.C_drewN ?_ _) | (with_reducible refine Kd.C_drew ?_))); (case side2 => exact (Kd.R_reads' HO158.out).2.1); rintro e w25 ⟨rfl, hb⟩; have n0_ := Aside0.mk (Kd.R_below (by (with_reducible repeat (first | apply Kd.R_alloc | apply Kd.R_drewN | apply Kd.R_drew)); exact HO158.out) hb); have n1_ := Aside0.mk (blk_below (by (with_reducible repeat (first | refine blk_drewN ?_ _ | refine blk_drew ?_ | refine blk_alloc ?_ _)); exact BK149.out) hb); have n2_ := Aside0.mk (below_step (by repeat (first | (with_reducible first | exact HB.out | apply below_alloc | apply pw_below_drewN | apply below_drew1 | refine below_set ?_ GE149.out) | exact HB.out)) hb); clear HO158; clear BK149; clear HB; have HO158 := n0_; have BK149 := n1_; have HB := n2_; clear n0_ n1_ n2_; (try clear hb); (try clear hb2); (try clear hk); (try clear hi)))
        go_meet
        case rel => exact ⟨_, (!t159), (by first | rfl | (simp; done) | (simp [*]; done)), H', ⟨by have := HJ4.out; first | omega | exact Nat.le_refl _⟩, ⟨by (with_reducible repeat (first | refine blk_drewN ?_ _ | refine blk_drew ?_ | refine blk_alloc ?_ _)); exact BK149.out⟩, ⟨by repeat (first | (with_reducible first | exact HB.out | apply below_alloc | apply pw_below_drewN | apply below_drew1 | refine below_set ?_ GE149.out) | exact HB.out)⟩⟩
    case rest =>
     clear HC14
     try clear c1
     try clear c2
     try clear p2
     try clear c5
     try clear c6
     try clear c8
     try clear c13
     try clear c15
     try clear c15b0
     try clear c15b1
     try clear c16
     try clear c16b0
     try clear c17
     try clear c17b0
     try clear c25
     try clear hcz11_0
     try clear hcz11_1
     try clear hcz11_2
     try clear hcz11_3
     try clear hcz11_4
     try clear hcz20_0
     try clear hcz20_1
     try clear hcz20_2
     try clear hcz20_3
     try clear hcz20_4
     try clear hcz9_0
     try clear hcz9_1
     try clear hcz9_2
     try clear hcz9_3
     try clear hcz9_4
     try clear hfz11_0
     try clear hfz11_1
     try clear hfz11_2
     try clear hfz11_3
     try clear hfz11_4
     try clear hfz20_0
     try clear hfz20_1
     try clear hfz20_2
     try clear hfz20_3
     try clear hfz20_4
     try clear hfz9_0
     try clear hfz9_1
     try clear hfz9_2
     try clear hfz9_3
     try clear hfz9_4
     try clear p2
     obtain ⟨kq, x36_13, rfl, HA, HJ13, BK149, HB⟩ := hcut
     cases kq with
     | zero => exact absurd HA.out (by simp [laws_FnSemverPreNumbers.j1])
     | succ kj13 =>
      have H := HA.out
      clear HA
      simp only [laws_FnSemverPreNumbers.j1] at H
      by_cases c26 : x36_13 = true
      ·
       subst c26
       have H1 : (some true) = some r := by rw [if_pos rfl] at H; exact H
       clear H
       have H := H1
       clear H1
       obtain rfl := Option.some.inj H
       go_wp2
       go_ret
       exact ⟨by first | rfl | (simp [errW_none, errW_some] <;> rfl) | (simp [*, errW_none, errW_some] <;> rfl), by repeat (first | (with_reducible first | exact HB.out | apply below_alloc | apply pw_below_drewN | apply below_drew1 | refine below_set ?_ GE149.out) | exact HB.out)⟩
      ·
       replace c26 := Bool.eq_false_iff.mpr c26
       subst c26
       have H1 : (if a1.size + 1 ≤ 9223372036854775807 then ((spec_Decimal.f kj13 a2).bind fun t160 => (if (a1 ++ (⟨#[46]⟩ : ByteArray)).size + t160.size ≤ 9223372036854775807 then ((laws_svPre.f a0_0 a0_1 a0_2 a0_3 a0_4 ((a1 ++ (⟨#[46]⟩ : ByteArray)) ++ t160)).bind fun bt161 => ((spec_Decimal.f kj13 a3).bind fun t166 => (if (a1 ++ (⟨#[46]⟩ : ByteArray)).size + t166.size ≤ 9223372036854775807 then ((laws_svPre.f a0_0 a0_1 a0_2 a0_3 a0_4 ((a1 ++ (⟨#[46]⟩ : ByteArray)) ++ t166)).bind fun bt167 => ((Hand.VersionLess.f bt161.1 bt161.2.1 bt161.2.2.1 bt161.2.2.2.1 bt161.2.2.2.2 bt167.1 bt167.2.1 bt167.2.2.1 bt167.2.2.2.1 bt167.2.2.2.2).bind fun t174 => (if (t174 == (decide (a2 < a3))) = true then ((Hand.VersionEqual.f bt161.1 bt161.2.1 bt161.2.2.1 bt161.2.2.2.1 bt161.2.2.2.2 bt167.1 bt167.2.1 bt167.2.2.1 bt167.2.2.2.1 bt167.2.2.2.2).bind fun t175 => (some (t175 == (a2 == a3)))) else (some false)))) else (none)))) else (none))) else (none)) = some r := by rw [if_neg (show ¬ (false = true) by decide)] at H; exact H
       clear H
       have H := H1
       clear H1
       by_cases c27 : a1.size + 1 ≤ 9223372036854775807
       ·
        rw [if_pos c27] at H
        have c27b0 := eq_true c27
        have c27b1 : decide (a1.size + 1 ≤ 9223372036854775807) = true := decide_eq_true c27
        try have c27b2 : (9223372036854775807 < a1.size + 1) = False := eq_false (Nat.not_lt.2 c27)
        replace H := Option.bind_eq_some_iff.mp H
        obtain ⟨t160, A280, H⟩ := H
        replace H : (if (a1 ++ (⟨#[46]⟩ : ByteArray)).size + t160.size ≤ 9223372036854775807 then ((laws_svPre.f a0_0 a0_1 a0_2 a0_3 a0_4 ((a1 ++ (⟨#[46]⟩ : ByteArray)) ++ t160)).bind fun bt161 => ((spec_Decimal.f kj13 a3).bind fun t166 => (if (a1 ++ (⟨#[46]⟩ : ByteArray)).size + t166.size ≤ 9223372036854775807 then ((laws_svPre.f a0_0 a0_1 a0_2 a0_3 a0_4 ((a1 ++ (⟨#[46]⟩ : ByteArray)) ++ t166)).bind fun bt167 => ((Hand.VersionLess.f bt161.1 bt161.2.1 bt161.2.2.1 bt161.2.2.2.1 bt161.2.2.2.2 bt167.1 bt167.2.1 bt167.2.2.1 bt167.2.2.2.1 bt167.2.2.2.2).bind fun t174 => (if (t174 == (decide (a2 < a3))) = true then ((Hand.VersionEqual.f bt161.1 bt161.2.1 bt161.2.2.1 bt161.2.2.2.1 bt161.2.2.2.2 bt167.1 bt167.2.1 bt167.2.2.1 bt167.2.2.2.1 bt167.2.2.2.2).bind fun t175 => (some (t175 == (a2 == a3)))) else (some false)))) else (none)))) else (none)) = some r := H
        have A28 := Aside0.mk A280
        clear A280
        by_cases c29 : (a1 ++ (⟨#[46]⟩ : ByteArray)).size + t160.size ≤ 9223372036854775807
        ·
         rw [if_pos c29] at H
         have c29b0 := eq_true c29
         have c29b1 : decide ((a1 ++ (⟨#[46]⟩ : ByteArray)).size + t160.size ≤ 9223372036854775807) = true := decide_eq_true c29
         try have c29b2 : (9223372036854775807 < (a1 ++ (⟨#[46]⟩ : ByteArray)).size + t160.size) = False := eq_false (Nat.not_lt.2 c29)
         have c29b3 : (9223372036854775807 < a1.size + 1 + t160.size) = False := eq_false (by have h_ := c29; rw [ByteArray.size_append] at h_; have h1_ : (⟨#[46]⟩ : ByteArray).size = 1 := rfl; rw [h1_] at h_; omega)
         replace H := Option.bind_eq_some_iff.mp H
         obtain ⟨⟨t161, t162, t163, t164, t165⟩, A300, H⟩ := H
         replace H : ((spec_Decimal.f kj13 a3).bind fun t166 => (if (a1 ++ (⟨#[46]⟩ : ByteArray)).size + t166.size ≤ 9223372036854775807 then ((laws_svPre.f a0_0 a0_1 a0_2 a0_3 a0_4 ((a1 ++ (⟨#[46]⟩ : ByteArray)) ++ t166)).bind fun bt167 => ((Hand.VersionLess.f t161 t162 t163 t164 t165 bt167.1 bt167.2.1 bt167.2.2.1 bt167.2.2.2.1 bt167.2.2.2.2).bind fun t174 => (if (t174 == (decide (a2 < a3))) = true then ((Hand.VersionEqual.f t161 t162 t163 t164 t165 bt167.1 bt167.2.1 bt167.2.2.1 bt167.2.2.2.1 bt167.2.2.2.2).bind fun t175 => (some (t175 == (a2 == a3)))) else (some false)))) else (none))) = some r := H
         have A30 := Aside0.mk A300
         clear A300
         replace H := Option.bind_eq_some_iff.mp H
         obtain ⟨t166, A310, H⟩ := H
         replace H : (if (a1 ++ (⟨#[46]⟩ : ByteArray)).size + t166.size ≤ 9223372036854775807 then ((laws_svPre.f a0_0 a0_1 a0_2 a0_3 a0_4 ((a1 ++ (⟨#[46]⟩ : ByteArray)) ++ t166)).bind fun bt167 => ((Hand.VersionLess.f t161 t162 t163 t164 t165 bt167.1 bt167.2.1 bt167.2.2.1 bt167.2.2.2.1 bt167.2.2.2.2).bind fun t174 => (if (t174 == (decide (a2 < a3))) = true then ((Hand.VersionEqual.f t161 t162 t163 t164 t165 bt167.1 bt167.2.1 bt167.2.2.1 bt167.2.2.2.1 bt167.2.2.2.2).bind fun t175 => (some (t175 == (a2 == a3)))) else (some false)))) else (none)) = some r := H
         have A31 := Aside0.mk A310
         clear A310
         by_cases c32 : (a1 ++ (⟨#[46]⟩ : ByteArray)).size + t166.size ≤ 9223372036854775807
         ·
          rw [if_pos c32] at H
          have c32b0 := eq_true c32
          have c32b1 : decide ((a1 ++ (⟨#[46]⟩ : ByteArray)).size + t166.size ≤ 9223372036854775807) = true := decide_eq_true c32
          try have c32b2 : (9223372036854775807 < (a1 ++ (⟨#[46]⟩ : ByteArray)).size + t166.size) = False := eq_false (Nat.not_lt.2 c32)
          have c32b3 : (9223372036854775807 < a1.size + 1 + t166.size) = False := eq_false (by have h_ := c32; rw [ByteArray.size_append] at h_; have h1_ : (⟨#[46]⟩ : ByteArray).size = 1 := rfl; rw [h1_] at h_; omega)
          replace H := Option.bind_eq_some_iff.mp H
          obtain ⟨⟨t167, t168, t169, t170, t171⟩, A330, H⟩ := H
          replace H : ((Hand.VersionLess.f t161 t162 t163 t164 t165 t167 t168 t169 t170 t171).bind fun t174 => (if (t174 == (decide (a2 < a3))) = true then ((Hand.VersionEqual.f t161 t162 t163 t164 t165 t167 t168 t169 t170 t171).bind fun t175 => (some (t175 == (a2 == a3)))) else (some false))) = some r := H
          have A33 := Aside0.mk A330
          clear A330
          replace H := Option.bind_eq_some_iff.mp H
          obtain ⟨t174, A340, H⟩ := H
          replace H : (if (t174 == (decide (a2 < a3))) = true then ((Hand.VersionEqual.f t161 t162 t163 t164 t165 t167 t168 t169 t170 t171).bind fun t175 => (some (t175 == (a2 == a3)))) else (some false)) = some r := H
          have A34 := Aside0.mk A340
          clear A340
          by_cases c35 : (t174 == (decide (a2 < a3))) = true
          ·
           rw [if_pos c35] at H
           have c35b0 : (t174 == (decide (a2 < a3))) = true := c35
           (try (have c35b1 : decide (t174 = (decide (a2 < a3))) = true := by simpa using c35))
           (try (have c35b2 : (t174 == (decide (a2 < a3))) = true := by simpa using c35))
           clear c35
           replace H := Option.bind_eq_some_iff.mp H
           obtain ⟨t175, A360, H⟩ := H
           replace H : (some (t175 == (a2 == a3))) = some r := H
           have A36 := Aside0.mk A360
           clear A360
           obtain rfl := Option.some.inj H
           try go_wp2
           have n0_ := Aside0.mk (blk_drew BK149.out)
           have n1_ := Aside0.mk (below_drew1 HB.out)
           clear BK149
           clear HB
           have BK149 := n0_
           have HB := n1_
           clear n0_ n1_
           refine start_ (n := 18) (S := fun w' => w'.cell? ⟨gb149, 0, none⟩ = some (.int .u64 a0_0) ∧ w'.cell? ⟨gb149, 1, none⟩ = some (.int .u64 a0_1) ∧ w'.cell? ⟨gb149, 2, none⟩ = some (.int .u64 a0_2) ∧ w'.cell? ⟨gb149, 3, none⟩ = some (.string a0_3) ∧ w'.cell? ⟨gb149, 4, none⟩ = some (.string a0_4)) (ds := []) #[false, false, false, false, false, false, false, false, false, false, false, false, false, false, false, false, false, false] (by kernel_rfl) rfl rfl ⟨(blk_cell BK149.out 0).trans rfl, (blk_cell BK149.out 1).trans rfl, (blk_cell BK149.out 2).trans rfl, (blk_cell BK149.out 3).trans rfl, (blk_cell BK149.out 4).trans rfl⟩ (fun hHeld => ?_); refine with_tabW laws_FnSemverPreNumbers.tab5 laws_FnSemverPreNumbers.bits5 (fun HT_ HW_ => ?_)
           generalize wc.drew = w37 at BK149 HB hHeld ⊢
           refine pure_ (i := 1) (N := some 38) (v := ?_) (a' := ?_) #[false, true, false, false, false, false, false, false, false, false, false, false, false, false, false, false, false, false] rfl rfl (any_of HT_.out (by kernel_rfl)) (fun _ _ _ h => h) (Or.inl ⟨by rfl, ?_⟩) ?_ ?_
           rotate_left
           ·
            intro w'
            go_simp
            with_reducible rfl
           rotate_left
           ·
            simp only [Act.put, List.setIfInBounds_toArray, List.set_cons_zero, List.set_cons_succ, i64_w, i32_w]
            rfl
           refine pure_ (i := 2) (N := some 39) (v := ?_) (a' := ?_) #[false, true, true, false, false, false, false, false, false, false, false, false, false, false, false, false, false, false] rfl rfl (any_of HT_.out (by kernel_rfl)) (fun _ _ _ h => h) (Or.inl ⟨by rfl, ?_⟩) ?_ ?_
           rotate_left
           ·
            intro w'
            go_simp
            with_reducible rfl
           rotate_left
           ·
            simp only [Act.put, List.setIfInBounds_toArray, List.set_cons_zero, List.set_cons_succ, i64_w, i32_w]
            rfl
           refine pure_ (i := 3) (N := some 40) (v := ?_) (a' := ?_) #[false, true, true, true, false, false, false, false, false, false, false, false, false, false, false, false, false, false] rfl rfl (any_of HT_.out (by kernel_rfl)) (fun _ _ _ h => h) (Or.inl ⟨by rfl, ?_⟩) ?_ ?_
           rotate_left
           ·
            intro w'
            go_simp
            with_reducible rfl
           rotate_left
           ·
            simp only [Act.put, List.setIfInBounds_toArray, List.set_cons_zero, List.set_cons_succ, i64_w, i32_w]
            rfl
           refine pure_ (i := 8) (N := some 45) (v := ?_) (a' := ?_) #[false, true, true, true, false, false, false, false, true, false, false, false, false, false, false, false, false, false] rfl rfl (any_of HT_.out (by kernel_rfl)) (fun _ _ _ h => h) (Or.inl ⟨by rfl, ?_⟩) ?_ ?_
           rotate_left
           ·
            intro w'
            go_simp
            with_reducible rfl
           rotate_left
           ·
            simp only [Act.put, List.setIfInBounds_toArray, List.set_cons_zero, List.set_cons_succ, i64_w, i32_w]
            rfl
           refine pure_ (i := 9) (N := some 46) (v := ?_) (a' := ?_) #[false, true, true, true, false, false, false, false, true, true, false, false, false, false, false, false, false, false] rfl rfl (any_of HT_.out (by kernel_rfl)) (fun _ _ _ h => h) (Or.inl ⟨by rfl, ?_⟩) ?_ ?_
           rotate_left
           ·
            intro w'
            go_simp
            with_reducible rfl
           rotate_left
           ·
            simp only [Act.put, List.setIfInBounds_toArray, List.set_cons_zero, List.set_cons_succ, i64_w, i32_w]
            rfl
           refine pure_ (i := 10) (N := some 47) (v := ?_) (a' := ?_) #[false, true, true, true, false, false, false, false, true, true, true, false, false, false, false, false, false, false] rfl rfl (any_of HT_.out (by kernel_rfl)) (fun _ _ _ h => h) (Or.inl ⟨by rfl, ?_⟩) ?_ ?_
           rotate_left
           ·
            intro w'
            go_simp
            with_reducible rfl
           rotate_left
           ·
            simp only [Act.put, List.setIfInBounds_toArray, List.set_cons_zero, List.set_cons_succ, i64_w, i32_w]
            rfl
           refine take_ (i := 0) (N := some 37) (v := ?_) (a' := ?_) #[true, true, true, true, false, false, false, false, true, true, true, false, false, false, false, false, false, false] rfl rfl (take_ofW HT_.out HW_.out (by kernel_rfl)) (fun _ _ _ h => h) (Or.inl ⟨by rfl, ?_⟩) hHeld ?_ ?_
           rotate_left
           ·
            rintro w' ⟨s0, s1, s2, s3, s4⟩
            go_simp
            with_reducible rfl
           rotate_left
           ·
            simp only [Act.put, List.setIfInBounds_toArray, List.set_cons_zero, List.set_cons_succ, i64_w, i32_w]
            rfl
           refine take_ (i := 7) (N := some 44) (v := ?_) (a' := ?_) #[true, true, true, true, false, false, false, true, true, true, true, false, false, false, false, false, false, false] rfl rfl (take_ofW HT_.out HW_.out (by kernel_rfl)) (fun _ _ _ h => h) (Or.inl ⟨by rfl, ?_⟩) hHeld ?_ ?_
           rotate_left
           ·
            rintro w' ⟨s0, s1, s2, s3, s4⟩
            go_simp
            with_reducible rfl
           rotate_left
           ·
            simp only [Act.put, List.setIfInBounds_toArray, List.set_cons_zero, List.set_cons_succ, i64_w, i32_w]
            rfl
           refine join_ (σ := Nat × Nat) 2 #[true, true, true, true, true, true, true, true, true, true, true, true, true, true, true, true, false, false] (fun s_ => [(41, .string t160), (43, .agg #[.int .u64 t161, .int .u64 t162, .int .u64 t163, .string t164, .string t165]), (48, .string t166), (50, .agg #[.int .u64 t167, .int .u64 t168, .int .u64 t169, .string t170, .string t171]), (9, .pointer (some ⟨s_.1, 0, none⟩)), (10, .pointer (some ⟨s_.2, 0, none⟩)), (42, .string ((a1 ++ (⟨#[46]⟩ : ByteArray)) ++ t160)), (49, .string ((a1 ++ (⟨#[46]⟩ : ByteArray)) ++ t166))]) (fun s_ w' => (w'.cell? ⟨gb149, 0, none⟩ = some (.int .u64 a0_0) ∧ w'.cell? ⟨gb149, 1, none⟩ = some (.int .u64 a0_1) ∧ w'.cell? ⟨gb149, 2, none⟩ = some (.int .u64 a0_2) ∧ w'.cell? ⟨gb149, 3, none⟩ = some (.string a0_3) ∧ w'.cell? ⟨gb149, 4, none⟩ = some (.string a0_4)) ∧ (w'.heap[gb149]? = some (.cells #[.int .u64 a0_0, .int .u64 a0_1, .int .u64 a0_2, .string a0_3, .string a0_4] 29 (0, 0))) ∧ (w'.heap[s_.1]? = some (.cells #[.int .u64 0, .int .u64 0, .int .u64 0, .string (⟨#[]⟩ : ByteArray), .string (⟨#[]⟩ : ByteArray)] 29 (0, 0))) ∧ (w'.heap[s_.2]? = some (.cells #[.int .u64 0, .int .u64 0, .int .u64 0, .string (⟨#[]⟩ : ByteArray), .string (⟨#[]⟩ : ByteArray)] 29 (0, 0))) ∧ (w.heap.size ≤ s_.1) ∧ (w.heap.size ≤ s_.1) ∧ (gb149 ≠ s_.1) ∧ (s_.1 ≠ gb149) ∧ (s_.2 ≠ s_.1) ∧ (s_.1 ≠ s_.2) ∧ (w.heap.size ≤ s_.2) ∧ (w.heap.size ≤ s_.2) ∧ (gb149 ≠ s_.2) ∧ (s_.2 ≠ gb149) ∧ (Below w.heap.size w w')) ?_ ?_
           rotate_left
           ·
            intro hJ4_6_11_13_14_15
            refine join_ (σ := Nat) 3 #[true, true, true, true, true, true, true, true, true, true, true, true, true, true, true, false, false, false] (fun s_ => [(41, .string t160), (43, .agg #[.int .u64 t161, .int .u64 t162, .int .u64 t163, .string t164, .string t165]), (48, .string t166), (50, .agg #[.int .u64 t167, .int .u64 t168, .int .u64 t169, .string t170, .string t171]), (9, .pointer (some ⟨s_, 0, none⟩)), (42, .string ((a1 ++ (⟨#[46]⟩ : ByteArray)) ++ t160)), (49, .string ((a1 ++ (⟨#[46]⟩ : ByteArray)) ++ t166))]) (fun s_ w' => (w'.cell? ⟨gb149, 0, none⟩ = some (.int .u64 a0_0) ∧ w'.cell? ⟨gb149, 1, none⟩ = some (.int .u64 a0_1) ∧ w'.cell? ⟨gb149, 2, none⟩ = some (.int .u64 a0_2) ∧ w'.cell? ⟨gb149, 3, none⟩ = some (.string a0_3) ∧ w'.cell? ⟨gb149, 4, none⟩ = some (.string a0_4)) ∧ (w'.heap[gb149]? = some (.cells #[.int .u64 a0_0, .int .u64 a0_1, .int .u64 a0_2, .string a0_3, .string a0_4] 29 (0, 0))) ∧ (w'.heap[s_]? = some (.cells #[.int .u64 0, .int .u64 0, .int .u64 0, .string (⟨#[]⟩ : ByteArray), .string (⟨#[]⟩ : ByteArray)] 29 (0, 0))) ∧ (w.heap.size ≤ s_) ∧ (w.heap.size ≤ s_) ∧ (gb149 ≠ s_) ∧ (s_ ≠ gb149) ∧ (Below w.heap.size w w')) ?_ ?_
            rotate_left
            ·
             intro hJ4_6_11_13_14
             refine join_ (σ := Nat) 3 #[true, true, true, true, true, true, true, true, true, true, true, true, true, true, false, true, false, false] (fun s_ => [(41, .string t160), (43, .agg #[.int .u64 t161, .int .u64 t162, .int .u64 t163, .string t164, .string t165]), (48, .string t166), (50, .agg #[.int .u64 t167, .int .u64 t168, .int .u64 t169, .string t170, .string t171]), (10, .pointer (some ⟨s_, 0, none⟩)), (42, .string ((a1 ++ (⟨#[46]⟩ : ByteArray)) ++ t160)), (49, .string ((a1 ++ (⟨#[46]⟩ : ByteArray)) ++ t166))]) (fun s_ w' => (w'.cell? ⟨gb149, 0, none⟩ = some (.int .u64 a0_0) ∧ w'.cell? ⟨gb149, 1, none⟩ = some (.int .u64 a0_1) ∧ w'.cell? ⟨gb149, 2, none⟩ = some (.int .u64 a0_2) ∧ w'.cell? ⟨gb149, 3, none⟩ = some (.string a0_3) ∧ w'.cell? ⟨gb149, 4, none⟩ = some (.string a0_4)) ∧ (w'.heap[gb149]? = some (.cells #[.int .u64 a0_0, .int .u64 a0_1, .int .u64 a0_2, .string a0_3, .string a0_4] 29 (0, 0))) ∧ (w'.heap[s_]? = some (.cells #[.int .u64 0, .int .u64 0, .int .u64 0, .string (⟨#[]⟩ : ByteArray), .string (⟨#[]⟩ : ByteArray)] 29 (0, 0))) ∧ (w.heap.size ≤ s_) ∧ (w.heap.size ≤ s_) ∧ (gb149 ≠ s_) ∧ (s_ ≠ gb149) ∧ (Below w.heap.size w w')) ?_ ?_
             rotate_left
             ·
              intro hJ4_6_11_13_15
              refine join_ (σ := Nat × Nat) 3 #[true, true, true, true, true, true, true, true, true, true, true, true, true, false, true, true, false, false] (fun s_ => [(41, .string t160), (43, .agg #[.int .u64 t161, .int .u64 t162, .int .u64 t163, .string t164, .string t165]), (48, .string t166), (9, .pointer (some ⟨s_.1, 0, none⟩)), (10, .pointer (some ⟨s_.2, 0, none⟩)), (42, .string ((a1 ++ (⟨#[46]⟩ : ByteArray)) ++ t160)), (49, .string ((a1 ++ (⟨#[46]⟩ : ByteArray)) ++ t166))]) (fun s_ w' => (w'.cell? ⟨gb149, 0, none⟩ = some (.int .u64 a0_0) ∧ w'.cell? ⟨gb149, 1, none⟩ = some (.int .u64 a0_1) ∧ w'.cell? ⟨gb149, 2, none⟩ = some (.int .u64 a0_2) ∧ w'.cell? ⟨gb149, 3, none⟩ = some (.string a0_3) ∧ w'.cell? ⟨gb149, 4, none⟩ = some (.string a0_4)) ∧ (w'.heap[gb149]? = some (.cells #[.int .u64 a0_0, .int .u64 a0_1, .int .u64 a0_2, .string a0_3, .string a0_4] 29 (0, 0))) ∧ (w'.heap[s_.1]? = some (.cells #[.int .u64 0, .int .u64 0, .int .u64 0, .string (⟨#[]⟩ : ByteArray), .string (⟨#[]⟩ : ByteArray)] 29 (0, 0))) ∧ (w'.heap[s_.2]? = some (.cells #[.int .u64 0, .int .u64 0, .int .u64 0, .string (⟨#[]⟩ : ByteArray), .string (⟨#[]⟩ : ByteArray)] 29 (0, 0))) ∧ (w.heap.size ≤ s_.1) ∧ (w.heap.size ≤ s_.1) ∧ (gb149 ≠ s_.1) ∧ (s_.1 ≠ gb149) ∧ (s_.2 ≠ s_.1) ∧ (s_.1 ≠ s_.2) ∧ (w.heap.size ≤ s_.2) ∧ (w.heap.size ≤ s_.2) ∧ (gb149 ≠ s_.2) ∧ (s_.2 ≠ gb149) ∧ (Below w.heap.size w w')) ?_ ?_
              rotate_left
              ·
               intro hJ4_6_11_14_15
               refine join_ (σ := Unit) 4 #[true, true, true, true, true, true, true, true, true, true, true, true, true, true, false, false, false, false] (fun s_ => [(41, .string t160), (43, .agg #[.int .u64 t161, .int .u64 t162, .int .u64 t163, .string t164, .string t165]), (48, .string t166), (50, .agg #[.int .u64 t167, .int .u64 t168, .int .u64 t169, .string t170, .string t171]), (42, .string ((a1 ++ (⟨#[46]⟩ : ByteArray)) ++ t160)), (49, .string ((a1 ++ (⟨#[46]⟩ : ByteArray)) ++ t166))]) (fun s_ w' => (w'.cell? ⟨gb149, 0, none⟩ = some (.int .u64 a0_0) ∧ w'.cell? ⟨gb149, 1, none⟩ = some (.int .u64 a0_1) ∧ w'.cell? ⟨gb149, 2, none⟩ = some (.int .u64 a0_2) ∧ w'.cell? ⟨gb149, 3, none⟩ = some (.string a0_3) ∧ w'.cell? ⟨gb149, 4, none⟩ = some (.string a0_4)) ∧ (w'.heap[gb149]? = some (.cells #[.int .u64 a0_0, .int .u64 a0_1, .int .u64 a0_2, .string a0_3, .string a0_4] 29 (0, 0))) ∧ (Below w.heap.size w w')) ?_ ?_
               rotate_left
               ·
                intro hJ4_6_11_13
                refine join_ (σ := Nat) 4 #[true, true, true, true, true, true, true, true, true, true, true, true, true, false, true, false, false, false] (fun s_ => [(41, .string t160), (43, .agg #[.int .u64 t161, .int .u64 t162, .int .u64 t163, .string t164, .string t165]), (48, .string t166), (9, .pointer (some ⟨s_, 0, none⟩)), (42, .string ((a1 ++ (⟨#[46]⟩ : ByteArray)) ++ t160)), (49, .string ((a1 ++ (⟨#[46]⟩ : ByteArray)) ++ t166))]) (fun s_ w' => (w'.cell? ⟨gb149, 0, none⟩ = some (.int .u64 a0_0) ∧ w'.cell? ⟨gb149, 1, none⟩ = some (.int .u64 a0_1) ∧ w'.cell? ⟨gb149, 2, none⟩ = some (.int .u64 a0_2) ∧ w'.cell? ⟨gb149, 3, none⟩ = some (.string a0_3) ∧ w'.cell? ⟨gb149, 4, none⟩ = some (.string a0_4)) ∧ (w'.heap[gb149]? = some (.cells #[.int .u64 a0_0, .int .u64 a0_1, .int .u64 a0_2, .string a0_3, .string a0_4] 29 (0, 0))) ∧ (w'.heap[s_]? = some (.cells #[.int .u64 0, .int .u64 0, .int .u64 0, .string (⟨#[]⟩ : ByteArray), .string (⟨#[]⟩ : ByteArray)] 29 (0, 0))) ∧ (w.heap.size ≤ s_) ∧ (w.heap.size ≤ s_) ∧ (gb149 ≠ s_) ∧ (s_ ≠ gb149) ∧ (Below w.heap.size w w')) ?_ ?_
                rotate_left
                ·
                 intro hJ4_6_11_14
                 refine join_ (σ := Nat) 4 #[true, true, true, true, true, true, true, true, true, true, true, true, true, false, false, true, false, false] (fun s_ => [(41, .string t160), (43, .agg #[.int .u64 t161, .int .u64 t162, .int .u64 t163, .string t164, .string t165]), (48, .string t166), (10, .pointer (some ⟨s_, 0, none⟩)), (42, .string ((a1 ++ (⟨#[46]⟩ : ByteArray)) ++ t160)), (49, .string ((a1 ++ (⟨#[46]⟩ : ByteArray)) ++ t166))]) (fun s_ w' => (w'.cell? ⟨gb149, 0, none⟩ = some (.int .u64 a0_0) ∧ w'.cell? ⟨gb149, 1, none⟩ = some (.int .u64 a0_1) ∧ w'.cell? ⟨gb149, 2, none⟩ = some (.int .u64 a0_2) ∧ w'.cell? ⟨gb149, 3, none⟩ = some (.string a0_3) ∧ w'.cell? ⟨gb149, 4, none⟩ = some (.string a0_4)) ∧ (w'.heap[gb149]? = some (.cells #[.int .u64 a0_0, .int .u64 a0_1, .int .u64 a0_2, .string a0_3, .string a0_4] 29 (0, 0))) ∧ (w'.heap[s_]? = some (.cells #[.int .u64 0, .int .u64 0, .int .u64 0, .string (⟨#[]⟩ : ByteArray), .string (⟨#[]⟩ : ByteArray)] 29 (0, 0))) ∧ (w.heap.size ≤ s_) ∧ (w.heap.size ≤ s_) ∧ (gb149 ≠ s_) ∧ (s_ ≠ gb149) ∧ (Below w.heap.size w w')) ?_ ?_
                 rotate_left
                 ·
                  intro hJ4_6_11_15
                  refine join_ (σ := Nat × Nat) 5 #[true, true, true, true, true, true, true, true, true, true, true, false, false, false, true, true, false, false] (fun s_ => [(41, .string t160), (43, .agg #[.int .u64 t161, .int .u64 t162, .int .u64 t163, .string t164, .string t165]), (9, .pointer (some ⟨s_.1, 0, none⟩)), (10, .pointer (some ⟨s_.2, 0, none⟩)), (42, .string ((a1 ++ (⟨#[46]⟩ : ByteArray)) ++ t160))]) (fun s_ w' => (w'.cell? ⟨gb149, 0, none⟩ = some (.int .u64 a0_0) ∧ w'.cell? ⟨gb149, 1, none⟩ = some (.int .u64 a0_1) ∧ w'.cell? ⟨gb149, 2, none⟩ = some (.int .u64 a0_2) ∧ w'.cell? ⟨gb149, 3, none⟩ = some (.string a0_3) ∧ w'.cell? ⟨gb149, 4, none⟩ = some (.string a0_4)) ∧ (w'.heap[gb149]? = some (.cells #[.int .u64 a0_0, .int .u64 a0_1, .int .u64 a0_2, .string a0_3, .string a0_4] 29 (0, 0))) ∧ (w'.heap[s_.1]? = some (.cells #[.int .u64 0, .int .u64 0, .int .u64 0, .string (⟨#[]⟩ : ByteArray), .string (⟨#[]⟩ : ByteArray)] 29 (0, 0))) ∧ (w'.heap[s_.2]? = some (.cells #[.int .u64 0, .int .u64 0, .int .u64 0, .string (⟨#[]⟩ : ByteArray), .string (⟨#[]⟩ : ByteArray)] 29 (0, 0))) ∧ (w.heap.size ≤ s_.1) ∧ (w.heap.size ≤ s_.1) ∧ (gb149 ≠ s_.1) ∧ (s_.1 ≠ gb149) ∧ (s_.2 ≠ s_.1) ∧ (s_.1 ≠ s_.2) ∧ (w.heap.size ≤ s_.2) ∧ (w.heap.size ≤ s_.2) ∧ (gb149 ≠ s_.2) ∧ (s_.2 ≠ gb149) ∧ (Below w.heap.size w w')) ?_ ?_
                  rotate_left
                  ·
                   intro hJ4_6_14_15
                   refine join_ (σ := Unit) 5 #[true, true, true, true, true, true, true, true, true, true, true, true, true, false, false, false, false, false] (fun s_ => [(41, .string t160), (43, .agg #[.int .u64 t161, .int .u64 t162, .int .u64 t163, .string t164, .string t165]), (48, .string t166), (42, .string ((a1 ++ (⟨#[46]⟩ : ByteArray)) ++ t160)), (49, .string ((a1 ++ (⟨#[46]⟩ : ByteArray)) ++ t166))]) (fun s_ w' => (w'.cell? ⟨gb149, 0, none⟩ = some (.int .u64 a0_0) ∧ w'.cell? ⟨gb149, 1, none⟩ = some (.int .u64 a0_1) ∧ w'.cell? ⟨gb149, 2, none⟩ = some (.int .u64 a0_2) ∧ w'.cell? ⟨gb149, 3, none⟩ = some (.string a0_3) ∧ w'.cell? ⟨gb149, 4, none⟩ = some (.string a0_4)) ∧ (w'.heap[gb149]? = some (.cells #[.int .u64 a0_0, .int .u64 a0_1, .int .u64 a0_2, .string a0_3, .string a0_4] 29 (0, 0))) ∧ (Below w.heap.size w w')) ?_ ?_
                   rotate_left
                   ·
                    intro hJ4_6_11
                    refine join_ (σ := Nat) 6 #[true, true, true, true, true, true, true, true, true, true, true, false, false, false, true, false, false, false] (fun s_ => [(41, .string t160), (43, .agg #[.int .u64 t161, .int .u64 t162, .int .u64 t163, .string t164, .string t165]), (9, .pointer (some ⟨s_, 0, none⟩)), (42, .string ((a1 ++ (⟨#[46]⟩ : ByteArray)) ++ t160))]) (fun s_ w' => (w'.cell? ⟨gb149, 0, none⟩ = some (.int .u64 a0_0) ∧ w'.cell? ⟨gb149, 1, none⟩ = some (.int .u64 a0_1) ∧ w'.cell? ⟨gb149, 2, none⟩ = some (.int .u64 a0_2) ∧ w'.cell? ⟨gb149, 3, none⟩ = some (.string a0_3) ∧ w'.cell? ⟨gb149, 4, none⟩ = some (.string a0_4)) ∧ (w'.heap[gb149]? = some (.cells #[.int .u64 a0_0, .int .u64 a0_1, .int .u64 a0_2, .string a0_3, .string a0_4] 29 (0, 0))) ∧ (w'.heap[s_]? = some (.cells #[.int .u64 0, .int .u64 0, .int .u64 0, .string (⟨#[]⟩ : ByteArray), .string (⟨#[]⟩ : ByteArray)] 29 (0, 0))) ∧ (w.heap.size ≤ s_) ∧ (w.heap.size ≤ s_) ∧ (gb149 ≠ s_) ∧ (s_ ≠ gb149) ∧ (Below w.heap.size w w')) ?_ ?_
                    rotate_left
                    ·
                     intro hJ4_6_14
                     refine join_ (σ := Nat) 6 #[true, true, true, true, true, true, true, true, true, true, true, false, false, false, false, true, false, false] (fun s_ => [(41, .string t160), (43, .agg #[.int .u64 t161, .int .u64 t162, .int .u64 t163, .string t164, .string t165]), (10, .pointer (some ⟨s_, 0, none⟩)), (42, .string ((a1 ++ (⟨#[46]⟩ : ByteArray)) ++ t160))]) (fun s_ w' => (w'.cell? ⟨gb149, 0, none⟩ = some (.int .u64 a0_0) ∧ w'.cell? ⟨gb149, 1, none⟩ = some (.int .u64 a0_1) ∧ w'.cell? ⟨gb149, 2, none⟩ = some (.int .u64 a0_2) ∧ w'.cell? ⟨gb149, 3, none⟩ = some (.string a0_3) ∧ w'.cell? ⟨gb149, 4, none⟩ = some (.string a0_4)) ∧ (w'.heap[gb149]? = some (.cells #[.int .u64 a0_0, .int .u64 a0_1, .int .u64 a0_2, .string a0_3, .string a0_4] 29 (0, 0))) ∧ (w'.heap[s_]? = some (.cells #[.int .u64 0, .int .u64 0, .int .u64 0, .string (⟨#[]⟩ : ByteArray), .string (⟨#[]⟩ : ByteArray)] 29 (0, 0))) ∧ (w.heap.size ≤ s_) ∧ (w.heap.size ≤ s_) ∧ (gb149 ≠ s_) ∧ (s_ ≠ gb149) ∧ (Below w.heap.size w w')) ?_ ?_
                     rotate_left
                     ·
                      intro hJ4_6_15
                      refine join_ (σ := Nat × Nat) 6 #[true, true, true, true, true, true, false, true, true, true, true, false, false, false, true, true, false, false] (fun s_ => [(41, .string t160), (9, .pointer (some ⟨s_.1, 0, none⟩)), (10, .pointer (some ⟨s_.2, 0, none⟩)), (42, .string ((a1 ++ (⟨#[46]⟩ : ByteArray)) ++ t160))]) (fun s_ w' => (w'.cell? ⟨gb149, 0, none⟩ = some (.int .u64 a0_0) ∧ w'.cell? ⟨gb149, 1, none⟩ = some (.int .u64 a0_1) ∧ w'.cell? ⟨gb149, 2, none⟩ = some (.int .u64 a0_2) ∧ w'.cell? ⟨gb149, 3, none⟩ = some (.string a0_3) ∧ w'.cell? ⟨gb149, 4, none⟩ = some (.string a0_4)) ∧ (w'.heap[gb149]? = some (.cells #[.int .u64 a0_0, .int .u64 a0_1, .int .u64 a0_2, .string a0_3, .string a0_4] 29 (0, 0))) ∧ (w'.heap[s_.1]? = some (.cells #[.int .u64 0, .int .u64 0, .int .u64 0, .string (⟨#[]⟩ : ByteArray), .string (⟨#[]⟩ : ByteArray)] 29 (0, 0))) ∧ (w'.heap[s_.2]? = some (.cells #[.int .u64 0, .int .u64 0, .int .u64 0, .string (⟨#[]⟩ : ByteArray), .string (⟨#[]⟩ : ByteArray)] 29 (0, 0))) ∧ (w.heap.size ≤ s_.1) ∧ (w.heap.size ≤ s_.1) ∧ (gb149 ≠ s_.1) ∧ (s_.1 ≠ gb149) ∧ (s_.2 ≠ s_.1) ∧ (s_.1 ≠ s_.2) ∧ (w.heap.size ≤ s_.2) ∧ (w.heap.size ≤ s_.2) ∧ (gb149 ≠ s_.2) ∧ (s_.2 ≠ gb149) ∧ (Below w.heap.size w w')) ?_ ?_
                      rotate_left
                      ·
                       intro hJ4_14_15
                       refine join_ (σ := Unit) 7 #[true, true, true, true, true, true, true, true, true, true, true, false, false, false, false, false, false, false] (fun s_ => [(41, .string t160), (43, .agg #[.int .u64 t161, .int .u64 t162, .int .u64 t163, .string t164, .string t165]), (42, .string ((a1 ++ (⟨#[46]⟩ : ByteArray)) ++ t160))]) (fun s_ w' => (w'.cell? ⟨gb149, 0, none⟩ = some (.int .u64 a0_0) ∧ w'.cell? ⟨gb149, 1, none⟩ = some (.int .u64 a0_1) ∧ w'.cell? ⟨gb149, 2, none⟩ = some (.int .u64 a0_2) ∧ w'.cell? ⟨gb149, 3, none⟩ = some (.string a0_3) ∧ w'.cell? ⟨gb149, 4, none⟩ = some (.string a0_4)) ∧ (w'.heap[gb149]? = some (.cells #[.int .u64 a0_0, .int .u64 a0_1, .int .u64 a0_2, .string a0_3, .string a0_4] 29 (0, 0))) ∧ (Below w.heap.size w w')) ?_ ?_
                       rotate_left
                       ·
                        intro hJ4_6
                        refine join_ (σ := Nat) 7 #[true, true, true, true, true, true, false, true, true, true, true, false, false, false, true, false, false, false] (fun s_ => [(41, .string t160), (9, .pointer (some ⟨s_, 0, none⟩)), (42, .string ((a1 ++ (⟨#[46]⟩ : ByteArray)) ++ t160))]) (fun s_ w' => (w'.cell? ⟨gb149, 0, none⟩ = some (.int .u64 a0_0) ∧ w'.cell? ⟨gb149, 1, none⟩ = some (.int .u64 a0_1) ∧ w'.cell? ⟨gb149, 2, none⟩ = some (.int .u64 a0_2) ∧ w'.cell? ⟨gb149, 3, none⟩ = some (.string a0_3) ∧ w'.cell? ⟨gb149, 4, none⟩ = some (.string a0_4)) ∧ (w'.heap[gb149]? = some (.cells #[.int .u64 a0_0, .int .u64 a0_1, .int .u64 a0_2, .string a0_3, .string a0_4] 29 (0, 0))) ∧ (w'.heap[s_]? = some (.cells #[.int .u64 0, .int .u64 0, .int .u64 0, .string (⟨#[]⟩ : ByteArray), .string (⟨#[]⟩ : ByteArray)] 29 (0, 0))) ∧ (w.heap.size ≤ s_) ∧ (w.heap.size ≤ s_) ∧ (gb149 ≠ s_) ∧ (s_ ≠ gb149) ∧ (Below w.heap.size w w')) ?_ ?_
                        rotate_left
                        ·
                         intro hJ4_14
                         refine join_ (σ := Nat) 7 #[true, true, true, true, true, true, false, true, true, true, true, false, false, false, false, true, false, false] (fun s_ => [(41, .string t160), (10, .pointer (some ⟨s_, 0, none⟩)), (42, .string ((a1 ++ (⟨#[46]⟩ : ByteArray)) ++ t160))]) (fun s_ w' => (w'.cell? ⟨gb149, 0, none⟩ = some (.int .u64 a0_0) ∧ w'.cell? ⟨gb149, 1, none⟩ = some (.int .u64 a0_1) ∧ w'.cell? ⟨gb149, 2, none⟩ = some (.int .u64 a0_2) ∧ w'.cell? ⟨gb149, 3, none⟩ = some (.string a0_3) ∧ w'.cell? ⟨gb149, 4, none⟩ = some (.string a0_4)) ∧ (w'.heap[gb149]? = some (.cells #[.int .u64 a0_0, .int .u64 a0_1, .int .u64 a0_2, .string a0_3, .string a0_4] 29 (0, 0))) ∧ (w'.heap[s_]? = some (.cells #[.int .u64 0, .int .u64 0, .int .u64 0, .string (⟨#[]⟩ : ByteArray), .string (⟨#[]⟩ : ByteArray)] 29 (0, 0))) ∧ (w.heap.size ≤ s_) ∧ (w.heap.size ≤ s_) ∧ (gb149 ≠ s_) ∧ (s_ ≠ gb149) ∧ (Below w.heap.size w w')) ?_ ?_
                         rotate_left
                         ·
                          intro hJ4_15
                          refine join_ (σ := Nat × Nat) 8 #[true, true, true, true, false, false, false, true, true, true, true, false, false, false, true, true, false, false] (fun s_ => [(9, .pointer (some ⟨s_.1, 0, none⟩)), (10, .pointer (some ⟨s_.2, 0, none⟩))]) (fun s_ w' => (w'.cell? ⟨gb149, 0, none⟩ = some (.int .u64 a0_0) ∧ w'.cell? ⟨gb149, 1, none⟩ = some (.int .u64 a0_1) ∧ w'.cell? ⟨gb149, 2, none⟩ = some (.int .u64 a0_2) ∧ w'.cell? ⟨gb149, 3, none⟩ = some (.string a0_3) ∧ w'.cell? ⟨gb149, 4, none⟩ = some (.string a0_4)) ∧ (w'.heap[gb149]? = some (.cells #[.int .u64 a0_0, .int .u64 a0_1, .int .u64 a0_2, .string a0_3, .string a0_4] 29 (0, 0))) ∧ (w'.heap[s_.1]? = some (.cells #[.int .u64 0, .int .u64 0, .int .u64 0, .string (⟨#[]⟩ : ByteArray), .string (⟨#[]⟩ : ByteArray)] 29 (0, 0))) ∧ (w'.heap[s_.2]? = some (.cells #[.int .u64 0, .int .u64 0, .int .u64 0, .string (⟨#[]⟩ : ByteArray), .string (⟨#[]⟩ : ByteArray)] 29 (0, 0))) ∧ (w.heap.size ≤ s_.1) ∧ (w.heap.size ≤ s_.1) ∧ (gb149 ≠ s_.1) ∧ (s_.1 ≠ gb149) ∧ (s_.2 ≠ s_.1) ∧ (s_.1 ≠ s_.2) ∧ (w.heap.size ≤ s_.2) ∧ (w.heap.size ≤ s_.2) ∧ (gb149 ≠ s_.2) ∧ (s_.2 ≠ gb149) ∧ (Below w.heap.size w w')) ?_ ?_
                          rotate_left
                          ·
                           intro hJ14_15
                           refine join_ (σ := Unit) 8 #[true, true, true, true, true, true, false, true, true, true, true, false, false, false, false, false, false, false] (fun s_ => [(41, .string t160), (42, .string ((a1 ++ (⟨#[46]⟩ : ByteArray)) ++ t160))]) (fun s_ w' => (w'.cell? ⟨gb149, 0, none⟩ = some (.int .u64 a0_0) ∧ w'.cell? ⟨gb149, 1, none⟩ = some (.int .u64 a0_1) ∧ w'.cell? ⟨gb149, 2, none⟩ = some (.int .u64 a0_2) ∧ w'.cell? ⟨gb149, 3, none⟩ = some (.string a0_3) ∧ w'.cell? ⟨gb149, 4, none⟩ = some (.string a0_4)) ∧ (w'.heap[gb149]? = some (.cells #[.int .u64 a0_0, .int .u64 a0_1, .int .u64 a0_2, .string a0_3, .string a0_4] 29 (0, 0))) ∧ (Below w.heap.size w w')) ?_ ?_
                           rotate_left
                           ·
                            intro hJ4
                            refine join_ (σ := Nat) 9 #[true, true, true, true, false, false, false, true, true, true, true, false, false, false, true, false, false, false] (fun s_ => [(9, .pointer (some ⟨s_, 0, none⟩))]) (fun s_ w' => (w'.cell? ⟨gb149, 0, none⟩ = some (.int .u64 a0_0) ∧ w'.cell? ⟨gb149, 1, none⟩ = some (.int .u64 a0_1) ∧ w'.cell? ⟨gb149, 2, none⟩ = some (.int .u64 a0_2) ∧ w'.cell? ⟨gb149, 3, none⟩ = some (.string a0_3) ∧ w'.cell? ⟨gb149, 4, none⟩ = some (.string a0_4)) ∧ (w'.heap[gb149]? = some (.cells #[.int .u64 a0_0, .int .u64 a0_1, .int .u64 a0_2, .string a0_3, .string a0_4] 29 (0, 0))) ∧ (w'.heap[s_]? = some (.cells #[.int .u64 0, .int .u64 0, .int .u64 0, .string (⟨#[]⟩ : ByteArray), .string (⟨#[]⟩ : ByteArray)] 29 (0, 0))) ∧ (w.heap.size ≤ s_) ∧ (w.heap.size ≤ s_) ∧ (gb149 ≠ s_) ∧ (s_ ≠ gb149) ∧ (Below w.heap.size w w')) ?_ ?_
                            rotate_left
                            ·
                             intro hJ14
                             refine join_ (σ := Nat) 9 #[true, true, true, true, false, false, false, true, true, true, true, false, false, false, false, true, false, false] (fun s_ => [(10, .pointer (some ⟨s_, 0, none⟩))]) (fun s_ w' => (w'.cell? ⟨gb149, 0, none⟩ = some (.int .u64 a0_0) ∧ w'.cell? ⟨gb149, 1, none⟩ = some (.int .u64 a0_1) ∧ w'.cell? ⟨gb149, 2, none⟩ = some (.int .u64 a0_2) ∧ w'.cell? ⟨gb149, 3, none⟩ = some (.string a0_3) ∧ w'.cell? ⟨gb149, 4, none⟩ = some (.string a0_4)) ∧ (w'.heap[gb149]? = some (.cells #[.int .u64 a0_0, .int .u64 a0_1, .int .u64 a0_2, .string a0_3, .string a0_4] 29 (0, 0))) ∧ (w'.heap[s_]? = some (.cells #[.int .u64 0, .int .u64 0, .int .u64 0, .string (⟨#[]⟩ : ByteArray), .string (⟨#[]⟩ : ByteArray)] 29 (0, 0))) ∧ (w.heap.size ≤ s_) ∧ (w.heap.size ≤ s_) ∧ (gb149 ≠ s_) ∧ (s_ ≠ gb149) ∧ (Below w.heap.size w w')) ?_ ?_
                             rotate_left
                             ·
                              intro hJ15
                              refine three_ (i := 4) (j := 14) (k := 15) (Ni := some 41) (Nj := some 9) (Nk := some 10) #[true, true, true, true, true, false, false, true, true, true, true, false, false, false, false, false, false, false] #[true, true, true, true, false, false, false, true, true, true, true, false, false, false, true, false, false, false] #[true, true, true, true, false, false, false, true, true, true, true, false, false, false, false, true, false, false] rfl rfl rfl rfl rfl rfl (three_of HT_.out (by kernel_rfl)) (by decide) (by decide) (by decide) (fun K hK => ?_) (fun K hK => ?_) (fun K hK => ?_)
                              ·
                               skip
                               refine goes_ Tryd.func30 (by kernel_rfl) rfl #[.int .u64 a2] (by rfl) rfl rfl (by (try simp only [List.map_toArray, List.map_cons, List.map_nil]); first | done | rfl | (simp only [List.length_drop, List.length_take]; rfl)) ?_
                               with_reducible refine (spec_Decimal.calls kj13 a2 t160 _ A28.out).mono ?_
                               rintro e w38 ⟨rfl, hb⟩
                               refine ⟨_, rfl, ?_⟩
                               have n0_ := Aside0.mk (blk_below (by (with_reducible repeat (first | refine blk_drewN ?_ _ | refine blk_drew ?_ | refine blk_alloc ?_ _)); exact BK149.out) hb)
                               have n1_ := Aside0.mk (below_step (by repeat (first | (with_reducible first | exact HB.out | apply below_alloc | apply pw_below_drewN | apply below_drew1 | refine below_set ?_ GE149.out) | exact HB.out)) hb)
                               clear BK149
                               clear HB
                               have BK149 := n0_
                               have HB := n1_
                               clear n0_ n1_
                               (try clear hb)
                               (try clear hb2)
                               (try clear hk)
                               (try clear hi)
                               refine hK.out _ _ ⟨(blk_cell BK149.out 0).trans rfl, (blk_cell BK149.out 1).trans rfl, (blk_cell BK149.out 2).trans rfl, (blk_cell BK149.out 3).trans rfl, (blk_cell BK149.out 4).trans rfl⟩ (fun hHeld => ?_)
                               clear hK K
                               refine norm_ (a' := ?_) ?_ ?_
                               rotate_left
                               ·
                                show Act.put _ (some 41) _ = _
                                simp only [Act.put, List.setIfInBounds_toArray, List.set_cons_zero, List.set_cons_succ, i64_w, i32_w]
                                rfl
                               refine pure_ (i := 5) (N := some 42) (v := ?_) (a' := ?_) #[true, true, true, true, true, true, false, true, true, true, true, false, false, false, false, false, false, false] rfl rfl (any_of HT_.out (by kernel_rfl)) (fun _ _ _ h => h) (Or.inl ⟨by rfl, ?_⟩) ?_ ?_
                               rotate_left
                               ·
                                intro w'
                                go_simp
                                with_reducible rfl
                               rotate_left
                               ·
                                simp only [Act.put, List.setIfInBounds_toArray, List.set_cons_zero, List.set_cons_succ, i64_w, i32_w]
                                rfl
                               exact norm_ (by first | (simp only [putAll, Act.put, List.setIfInBounds_toArray, List.set_cons_zero, List.set_cons_succ]; done) | (simp only [putAll, Act.put, List.setIfInBounds_toArray, List.set_cons_zero, List.set_cons_succ]; rfl)) (hJ4 () _ ⟨hHeld, (by (with_reducible repeat (first | refine blk_drewN ?_ _ | refine blk_drew ?_ | refine blk_alloc ?_ _)); exact BK149.out), (by repeat (first | (with_reducible first | exact HB.out | apply below_alloc | apply pw_below_drewN | apply below_drew1 | refine below_set ?_ GE149.out) | exact HB.out))⟩)
                              ·
                               skip
                               refine box_step ?hg (N := 9) ?hd (cs := #[.int .u64 0, .int .u64 0, .int .u64 0, .string (⟨#[]⟩ : ByteArray), .string (⟨#[]⟩ : ByteArray)]) (t := 29) ?hr ?_; (case hd => rfl); (case hg => rfl); (case hr => first | (go_simp; done) | (go_simp; rfl))
                               intro gb172 hg w38 hbox hb
                               have n0_ := Aside0.mk (blk_below (by (with_reducible repeat (first | refine blk_drewN ?_ _ | refine blk_drew ?_ | refine blk_alloc ?_ _)); exact BK149.out) hb)
                               have n1_ := Aside0.mk (below_step (by repeat (first | (with_reducible first | exact HB.out | apply below_alloc | apply pw_below_drewN | apply below_drew1 | refine below_set ?_ GE149.out) | exact HB.out)) hb)
                               have n2_ := Aside0.mk (hbox)
                               have n3_ := Aside0.mk ((by rw [hg]; exact (below_size (by repeat (first | (with_reducible first | exact HB.out | apply below_alloc | apply pw_below_drewN | apply below_drew1 | refine below_set ?_ GE149.out) | exact HB.out))) : w.heap.size ≤ gb172))
                               have n4_ := Aside0.mk ((by rw [hg]; exact (below_size (by repeat (first | (with_reducible first | exact HB.out | apply below_alloc | apply pw_below_drewN | apply below_drew1 | refine below_set ?_ GE149.out) | exact HB.out))) : w.heap.size ≤ gb172))
                               have n5_ := Aside0.mk ((by rw [hg]; exact Nat.ne_of_lt (blk_lt (g := gb149) (o := .cells #[.int .u64 a0_0, .int .u64 a0_1, .int .u64 a0_2, .string a0_3, .string a0_4] 29 (0, 0)) (by (with_reducible repeat (first | refine blk_drewN ?_ _ | refine blk_drew ?_ | refine blk_alloc ?_ _)); exact BK149.out)) : gb149 ≠ gb172))
                               have n6_ := Aside0.mk ((by rw [hg]; exact Nat.ne_of_gt (blk_lt (g := gb149) (o := .cells #[.int .u64 a0_0, .int .u64 a0_1, .int .u64 a0_2, .string a0_3, .string a0_4] 29 (0, 0)) (by (with_reducible repeat (first | refine blk_drewN ?_ _ | refine blk_drew ?_ | refine blk_alloc ?_ _)); exact BK149.out)) : gb172 ≠ gb149))
                               clear BK149
                               clear HB
                               have BK149 := n0_
                               have HB := n1_
                               have BK172 := n2_
                               have GW172 := n3_
                               have GE172 := n4_
                               have NB149_172 := n5_
                               have NB172_149 := n6_
                               clear n0_ n1_ n2_ n3_ n4_ n5_ n6_
                               clear hb hbox hg
                               refine hK.out _ _ ⟨(blk_cell BK149.out 0).trans rfl, (blk_cell BK149.out 1).trans rfl, (blk_cell BK149.out 2).trans rfl, (blk_cell BK149.out 3).trans rfl, (blk_cell BK149.out 4).trans rfl⟩ (fun hHeld => ?_)
                               clear hK K
                               refine norm_ (a' := ?_) ?_ ?_
                               rotate_left
                               ·
                                show Act.put _ (some 9) _ = _
                                simp only [Act.put, List.setIfInBounds_toArray, List.set_cons_zero, List.set_cons_succ, i64_w, i32_w]
                                rfl
                               exact norm_ (by first | (simp only [putAll, Act.put, List.setIfInBounds_toArray, List.set_cons_zero, List.set_cons_succ]; done) | (simp only [putAll, Act.put, List.setIfInBounds_toArray, List.set_cons_zero, List.set_cons_succ]; rfl)) (hJ14 (gb172) _ ⟨hHeld, (by (with_reducible repeat (first | refine blk_drewN ?_ _ | refine blk_drew ?_ | refine blk_alloc ?_ _)); exact BK149.out), (by (with_reducible repeat (first | refine blk_drewN ?_ _ | refine blk_drew ?_ | refine blk_alloc ?_ _)); exact BK172.out), GW172.out, GE172.out, NB149_172.out, NB172_149.out, (by repeat (first | (with_reducible first | exact HB.out | apply below_alloc | apply pw_below_drewN | apply below_drew1 | refine below_set ?_ GE149.out | refine below_set ?_ GE172.out) | exact HB.out))⟩)
                              ·
                               skip
                               refine box_step ?hg (N := 10) ?hd (cs := #[.int .u64 0, .int .u64 0, .int .u64 0, .string (⟨#[]⟩ : ByteArray), .string (⟨#[]⟩ : ByteArray)]) (t := 29) ?hr ?_; (case hd => rfl); (case hg => rfl); (case hr => first | (go_simp; done) | (go_simp; rfl))
                               intro gb173 hg w38 hbox hb
                               have n0_ := Aside0.mk (blk_below (by (with_reducible repeat (first | refine blk_drewN ?_ _ | refine blk_drew ?_ | refine blk_alloc ?_ _)); exact BK149.out) hb)
                               have n1_ := Aside0.mk (below_step (by repeat (first | (with_reducible first | exact HB.out | apply below_alloc | apply pw_below_drewN | apply below_drew1 | refine below_set ?_ GE149.out) | exact HB.out)) hb)
                               have n2_ := Aside0.mk (hbox)
                               have n3_ := Aside0.mk ((by rw [hg]; exact (below_size (by repeat (first | (with_reducible first | exact HB.out | apply below_alloc | apply pw_below_drewN | apply below_drew1 | refine below_set ?_ GE149.out) | exact HB.out))) : w.heap.size ≤ gb173))
                               have n4_ := Aside0.mk ((by rw [hg]; exact (below_size (by repeat (first | (with_reducible first | exact HB.out | apply below_alloc | apply pw_below_drewN | apply below_drew1 | refine below_set ?_ GE149.out) | exact HB.out))) : w.heap.size ≤ gb173))
                               have n5_ := Aside0.mk ((by rw [hg]; exact Nat.ne_of_lt (blk_lt (g := gb149) (o := .cells #[.int .u64 a0_0, .int .u64 a0_1, .int .u64 a0_2, .string a0_3, .string a0_4] 29 (0, 0)) (by (with_reducible repeat (first | refine blk_drewN ?_ _ | refine blk_drew ?_ | refine blk_alloc ?_ _)); exact BK149.out)) : gb149 ≠ gb173))
                               have n6_ := Aside0.mk ((by rw [hg]; exact Nat.ne_of_gt (blk_lt (g := gb149) (o := .cells #[.int .u64 a0_0, .int .u64 a0_1, .int .u64 a0_2, .string a0_3, .string a0_4] 29 (0, 0)) (by (with_reducible repeat (first | refine blk_drewN ?_ _ | refine blk_drew ?_ | refine blk_alloc ?_ _)); exact BK149.out)) : gb173 ≠ gb149))
                               clear BK149
                               clear HB
                               have BK149 := n0_
                               have HB := n1_
                               have BK173 := n2_
                               have GW173 := n3_
                               have GE173 := n4_
                               have NB149_173 := n5_
                               have NB173_149 := n6_
                               clear n0_ n1_ n2_ n3_ n4_ n5_ n6_
                               clear hb hbox hg
                               refine hK.out _ _ ⟨(blk_cell BK149.out 0).trans rfl, (blk_cell BK149.out 1).trans rfl, (blk_cell BK149.out 2).trans rfl, (blk_cell BK149.out 3).trans rfl, (blk_cell BK149.out 4).trans rfl⟩ (fun hHeld => ?_)
                               clear hK K
                               refine norm_ (a' := ?_) ?_ ?_
                               rotate_left
                               ·
                                show Act.put _ (some 10) _ = _
                                simp only [Act.put, List.setIfInBounds_toArray, List.set_cons_zero, List.set_cons_succ, i64_w, i32_w]
                                rfl
                               exact norm_ (by first | (simp only [putAll, Act.put, List.setIfInBounds_toArray, List.set_cons_zero, List.set_cons_succ]; done) | (simp only [putAll, Act.put, List.setIfInBounds_toArray, List.set_cons_zero, List.set_cons_succ]; rfl)) (hJ15 (gb173) _ ⟨hHeld, (by (with_reducible repeat (first | refine blk_drewN ?_ _ | refine blk_drew ?_ | refine blk_alloc ?_ _)); exact BK149.out), (by (with_reducible repeat (first | refine blk_drewN ?_ _ | refine blk_drew ?_ | refine blk_alloc ?_ _)); exact BK173.out), GW173.out, GE173.out, NB149_173.out, NB173_149.out, (by repeat (first | (with_reducible first | exact HB.out | apply below_alloc | apply pw_below_drewN | apply below_drew1 | refine below_set ?_ GE149.out | refine below_set ?_ GE173.out) | exact HB.out))⟩)
                             ·
                              skip
                              rintro gb173 w39 ⟨hS_, h0_, h1_, h2_, h3_, h4_, h5_, h6_⟩
                              have n0_ : Aside0 (w39.heap[gb149]? = some (.cells #[.int .u64 a0_0, .int .u64 a0_1, .int .u64 a0_2, .string a0_3, .string a0_4] 29 (0, 0))) := ⟨h0_⟩
                              have n1_ : Aside0 (w39.heap[gb173]? = some (.cells #[.int .u64 0, .int .u64 0, .int .u64 0, .string (⟨#[]⟩ : ByteArray), .string (⟨#[]⟩ : ByteArray)] 29 (0, 0))) := ⟨h1_⟩
                              have n2_ : Aside0 (w.heap.size ≤ gb173) := ⟨h2_⟩
                              have n3_ : Aside0 (w.heap.size ≤ gb173) := ⟨h3_⟩
                              have n4_ : Aside0 (gb149 ≠ gb173) := ⟨h4_⟩
                              have n5_ : Aside0 (gb173 ≠ gb149) := ⟨h5_⟩
                              have n6_ : Aside0 (Below w.heap.size w w39) := ⟨h6_⟩
                              clear BK149
                              clear HB
                              clear h0_ h1_ h2_ h3_ h4_ h5_ h6_
                              have BK149 := n0_
                              have BK173 := n1_
                              have GW173 := n2_
                              have GE173 := n3_
                              have NB149_173 := n4_
                              have NB173_149 := n5_
                              have HB := n6_
                              clear n0_ n1_ n2_ n3_ n4_ n5_ n6_
                              have hHeld : w39.cell? ⟨gb149, 0, none⟩ = some (.int .u64 a0_0) ∧ w39.cell? ⟨gb149, 1, none⟩ = some (.int .u64 a0_1) ∧ w39.cell? ⟨gb149, 2, none⟩ = some (.int .u64 a0_2) ∧ w39.cell? ⟨gb149, 3, none⟩ = some (.string a0_3) ∧ w39.cell? ⟨gb149, 4, none⟩ = some (.string a0_4) := hS_
                              refine norm_ (a' := ?_) ?_ ?_
                              rotate_left
                              ·
                               simp only [putAll, Act.put, List.setIfInBounds_toArray, List.set_cons_zero, List.set_cons_succ]
                               rfl
                              refine two_ (i := 4) (j := 14) (Ni := some 41) (Nj := some 9) #[true, true, true, true, true, false, false, true, true, true, true, false, false, false, false, true, false, false] #[true, true, true, true, false, false, false, true, true, true, true, false, false, false, true, true, false, false] rfl rfl rfl rfl (two_of HT_.out (by kernel_rfl)) (by decide) (by decide) (fun K hK => ?_) (fun K hK => ?_)
                              ·
                               skip
                               refine goes_ Tryd.func30 (by kernel_rfl) rfl #[.int .u64 a2] (by rfl) rfl rfl (by (try simp only [List.map_toArray, List.map_cons, List.map_nil]); first | done | rfl | (simp only [List.length_drop, List.length_take]; rfl)) ?_
                               with_reducible refine (spec_Decimal.calls kj13 a2 t160 _ A28.out).mono ?_
                               rintro e w40 ⟨rfl, hb⟩
                               refine ⟨_, rfl, ?_⟩
                               have n0_ := Aside0.mk (blk_below (by (with_reducible repeat (first | refine blk_drewN ?_ _ | refine blk_drew ?_ | refine blk_alloc ?_ _)); exact BK149.out) hb)
                               have n1_ := Aside0.mk (blk_below (g := gb173) (o := .cells #[.int .u64 0, .int .u64 0, .int .u64 0, .string (⟨#[]⟩ : ByteArray), .string (⟨#[]⟩ : ByteArray)] 29 (0, 0)) (by (with_reducible repeat (first | refine blk_drewN ?_ _ | refine blk_drew ?_ | refine blk_alloc ?_ _)); exact BK173.out) hb)
                               have n2_ := Aside0.mk (below_step (by repeat (first | (with_reducible first | exact HB.out | apply below_alloc | apply pw_below_drewN | apply below_drew1 | refine below_set ?_ GE149.out | refine below_set ?_ GE173.out) | exact HB.out)) hb)
                               clear BK149
                               clear BK173
                               clear HB
                               have BK149 := n0_
                               have BK173 := n1_
                               have HB := n2_
                               clear n0_ n1_ n2_
                               (try clear hb)
                               (try clear hb2)
                               (try clear hk)
                               (try clear hi)
                               refine hK.out _ _ ⟨(blk_cell BK149.out 0).trans rfl, (blk_cell BK149.out 1).trans rfl, (blk_cell BK149.out 2).trans rfl, (blk_cell BK149.out 3).trans rfl, (blk_cell BK149.out 4).trans rfl⟩ (fun hHeld => ?_)
                               clear hK K
                               refine norm_ (a' := ?_) ?_ ?_
                               rotate_left
                               ·
                                show Act.put _ (some 41) _ = _
                                simp only [Act.put, List.setIfInBounds_toArray, List.set_cons_zero, List.set_cons_succ, i64_w, i32_w]
                                rfl
                               refine pure_ (i := 5) (N := some 42) (v := ?_) (a' := ?_) #[true, true, true, true, true, true, false, true, true, true, true, false, false, false, false, true, false, false] rfl rfl (any_of HT_.out (by kernel_rfl)) (fun _ _ _ h => h) (Or.inl ⟨by rfl, ?_⟩) ?_ ?_
                               rotate_left
                               ·
                                intro w'
                                go_simp
                                with_reducible rfl
                               rotate_left
                               ·
                                simp only [Act.put, List.setIfInBounds_toArray, List.set_cons_zero, List.set_cons_succ, i64_w, i32_w]
                                rfl
                               exact norm_ (by first | (simp only [putAll, Act.put, List.setIfInBounds_toArray, List.set_cons_zero, List.set_cons_succ]; done) | (simp only [putAll, Act.put, List.setIfInBounds_toArray, List.set_cons_zero, List.set_cons_succ]; rfl)) (hJ4_15 (gb173) _ ⟨hHeld, (by (with_reducible repeat (first | refine blk_drewN ?_ _ | refine blk_drew ?_ | refine blk_alloc ?_ _)); exact BK149.out), (by (with_reducible repeat (first | refine blk_drewN ?_ _ | refine blk_drew ?_ | refine blk_alloc ?_ _)); exact BK173.out), GW173.out, GE173.out, NB149_173.out, NB173_149.out, (by repeat (first | (with_reducible first | exact HB.out | apply below_alloc | apply pw_below_drewN | apply below_drew1 | refine below_set ?_ GE149.out | refine below_set ?_ GE173.out) | exact HB.out))⟩)
                              ·
                               skip
                               refine box_step ?hg (N := 9) ?hd (cs := #[.int .u64 0, .int .u64 0, .int .u64 0, .string (⟨#[]⟩ : ByteArray), .string (⟨#[]⟩ : ByteArray)]) (t := 29) ?hr ?_; (case hd => rfl); (case hg => rfl); (case hr => first | (go_simp; done) | (go_simp; rfl))
                               intro gb172 hg w40 hbox hb
                               have n0_ := Aside0.mk (blk_below (by (with_reducible repeat (first | refine blk_drewN ?_ _ | refine blk_drew ?_ | refine blk_alloc ?_ _)); exact BK149.out) hb)
                               have n1_ := Aside0.mk (blk_below (g := gb173) (o := .cells #[.int .u64 0, .int .u64 0, .int .u64 0, .string (⟨#[]⟩ : ByteArray), .string (⟨#[]⟩ : ByteArray)] 29 (0, 0)) (by (with_reducible repeat (first | refine blk_drewN ?_ _ | refine blk_drew ?_ | refine blk_alloc ?_ _)); exact BK173.out) hb)
                               have n2_ := Aside0.mk (below_step (by repeat (first | (with_reducible first | exact HB.out | apply below_alloc | apply pw_below_drewN | apply below_drew1 | refine below_set ?_ GE149.out | refine below_set ?_ GE173.out) | exact HB.out)) hb)
                               have n3_ := Aside0.mk (hbox)
                               have n4_ := Aside0.mk ((by rw [hg]; exact (below_size (by repeat (first | (with_reducible first | exact HB.out | apply below_alloc | apply pw_below_drewN | apply below_drew1 | refine below_set ?_ GE149.out | refine below_set ?_ GE173.out) | exact HB.out))) : w.heap.size ≤ gb172))
                               have n5_ := Aside0.mk ((by rw [hg]; exact (below_size (by repeat (first | (with_reducible first | exact HB.out | apply below_alloc | apply pw_below_drewN | apply below_drew1 | refine below_set ?_ GE149.out | refine below_set ?_ GE173.out) | exact HB.out))) : w.heap.size ≤ gb172))
                               have n6_ := Aside0.mk ((by rw [hg]; exact Nat.ne_of_lt (blk_lt (g := gb149) (o := .cells #[.int .u64 a0_0, .int .u64 a0_1, .int .u64 a0_2, .string a0_3, .string a0_4] 29 (0, 0)) (by (with_reducible repeat (first | refine blk_drewN ?_ _ | refine blk_drew ?_ | refine blk_alloc ?_ _)); exact BK149.out)) : gb149 ≠ gb172))
                               have n7_ := Aside0.mk ((by rw [hg]; exact Nat.ne_of_gt (blk_lt (g := gb149) (o := .cells #[.int .u64 a0_0, .int .u64 a0_1, .int .u64 a0_2, .string a0_3, .string a0_4] 29 (0, 0)) (by (with_reducible repeat (first | refine blk_drewN ?_ _ | refine blk_drew ?_ | refine blk_alloc ?_ _)); exact BK149.out)) : gb172 ≠ gb149))
                               have n8_ := Aside0.mk ((by rw [hg]; exact Nat.ne_of_lt (blk_lt (g := gb173) (o := .cells #[.int .u64 0, .int .u64 0, .int .u64 0, .string (⟨#[]⟩ : ByteArray), .string (⟨#[]⟩ : ByteArray)] 29 (0, 0)) (by (with_reducible repeat (first | refine blk_drewN ?_ _ | refine blk_drew ?_ | refine blk_alloc ?_ _)); exact BK173.out)) : gb173 ≠ gb172))
                               have n9_ := Aside0.mk ((by rw [hg]; exact Nat.ne_of_gt (blk_lt (g := gb173) (o := .cells #[.int .u64 0, .int .u64 0, .int .u64 0, .string (⟨#[]⟩ : ByteArray), .string (⟨#[]⟩ : ByteArray)] 29 (0, 0)) (by (with_reducible repeat (first | refine blk_drewN ?_ _ | refine blk_drew ?_ | refine blk_alloc ?_ _)); exact BK173.out)) : gb172 ≠ gb173))
                               clear BK149
                               clear BK173
                               clear HB
                               have BK149 := n0_
                               have BK173 := n1_
                               have HB := n2_
                               have BK172 := n3_
                               have GW172 := n4_
                               have GE172 := n5_
                               have NB149_172 := n6_
                               have NB172_149 := n7_
                               have NB173_172 := n8_
                               have NB172_173 := n9_
                               clear n0_ n1_ n2_ n3_ n4_ n5_ n6_ n7_ n8_ n9_
                               clear hb hbox hg
                               refine hK.out _ _ ⟨(blk_cell BK149.out 0).trans rfl, (blk_cell BK149.out 1).trans rfl, (blk_cell BK149.out 2).trans rfl, (blk_cell BK149.out 3).trans rfl, (blk_cell BK149.out 4).trans rfl⟩ (fun hHeld => ?_)
                               clear hK K
                               refine norm_ (a' := ?_) ?_ ?_
                               rotate_left
                               ·
                                show Act.put _ (some 9) _ = _
                                simp only [Act.put, List.setIfInBounds_toArray, List.set_cons_zero, List.set_cons_succ, i64_w, i32_w]
                                rfl
                               exact norm_ (by first | (simp only [putAll, Act.put, List.setIfInBounds_toArray, List.set_cons_zero, List.set_cons_succ]; done) | (simp only [putAll, Act.put, List.setIfInBounds_toArray, List.set_cons_zero, List.set_cons_succ]; rfl)) (hJ14_15 (gb172, gb173) _ ⟨hHeld, (by (with_reducible repeat (first | refine blk_drewN ?_ _ | refine blk_drew ?_ | refine blk_alloc ?_ _)); exact BK149.out), (by (with_reducible repeat (first | refine blk_drewN ?_ _ | refine blk_drew ?_ | refine blk_alloc ?_ _)); exact BK172.out), (by (with_reducible repeat (first | refine blk_drewN ?_ _ | refine blk_drew ?_ | refine blk_alloc ?_ _)); exact BK173.out), GW172.out, GE172.out, NB149_172.out, NB172_149.out, NB173_172.out, NB172_173.out, GW173.out, GE173.out, NB149_173.out, NB173_149.out, (by repeat (first | (with_reducible first | exact HB.out | apply below_alloc | apply pw_below_drewN | apply below_drew1 | refine below_set ?_ GE149.out | refine below_set ?_ GE173.out | refine below_set ?_ GE172.out) | exact HB.out))⟩)
                            ·
                             skip
                             rintro gb172 w39 ⟨hS_, h0_, h1_, h2_, h3_, h4_, h5_, h6_⟩
                             have n0_ : Aside0 (w39.heap[gb149]? = some (.cells #[.int .u64 a0_0, .int .u64 a0_1, .int .u64 a0_2, .string a0_3, .string a0_4] 29 (0, 0))) := ⟨h0_⟩
                             have n1_ : Aside0 (w39.heap[gb172]? = some (.cells #[.int .u64 0, .int .u64 0, .int .u64 0, .string (⟨#[]⟩ : ByteArray), .string (⟨#[]⟩ : ByteArray)] 29 (0, 0))) := ⟨h1_⟩
                             have n2_ : Aside0 (w.heap.size ≤ gb172) := ⟨h2_⟩
                             have n3_ : Aside0 (w.heap.size ≤ gb172) := ⟨h3_⟩
                             have n4_ : Aside0 (gb149 ≠ gb172) := ⟨h4_⟩
                             have n5_ : Aside0 (gb172 ≠ gb149) := ⟨h5_⟩
                             have n6_ : Aside0 (Below w.heap.size w w39) := ⟨h6_⟩
                             clear BK149
                             clear HB
                             clear h0_ h1_ h2_ h3_ h4_ h5_ h6_
                             have BK149 := n0_
                             have BK172 := n1_
                             have GW172 := n2_
                             have GE172 := n3_
                             have NB149_172 := n4_
                             have NB172_149 := n5_
                             have HB := n6_
                             clear n0_ n1_ n2_ n3_ n4_ n5_ n6_
                             have hHeld : w39.cell? ⟨gb149, 0, none⟩ = some (.int .u64 a0_0) ∧ w39.cell? ⟨gb149, 1, none⟩ = some (.int .u64 a0_1) ∧ w39.cell? ⟨gb149, 2, none⟩ = some (.int .u64 a0_2) ∧ w39.cell? ⟨gb149, 3, none⟩ = some (.string a0_3) ∧ w39.cell? ⟨gb149, 4, none⟩ = some (.string a0_4) := hS_
                             refine norm_ (a' := ?_) ?_ ?_
                             rotate_left
                             ·
                              simp only [putAll, Act.put, List.setIfInBounds_toArray, List.set_cons_zero, List.set_cons_succ]
                              rfl
                             refine two_ (i := 4) (j := 15) (Ni := some 41) (Nj := some 10) #[true, true, true, true, true, false, false, true, true, true, true, false, false, false, true, false, false, false] #[true, true, true, true, false, false, false, true, true, true, true, false, false, false, true, true, false, false] rfl rfl rfl rfl (two_of HT_.out (by kernel_rfl)) (by decide) (by decide) (fun K hK => ?_) (fun K hK => ?_)
                             ·
                              skip
                              refine goes_ Tryd.func30 (by kernel_rfl) rfl #[.int .u64 a2] (by rfl) rfl rfl (by (try simp only [List.map_toArray, List.map_cons, List.map_nil]); first | done | rfl | (simp only [List.length_drop, List.length_take]; rfl)) ?_
                              with_reducible refine (spec_Decimal.calls kj13 a2 t160 _ A28.out).mono ?_
                              rintro e w40 ⟨rfl, hb⟩
                              refine ⟨_, rfl, ?_⟩
                              have n0_ := Aside0.mk (blk_below (by (with_reducible repeat (first | refine blk_drewN ?_ _ | refine blk_drew ?_ | refine blk_alloc ?_ _)); exact BK149.out) hb)
                              have n1_ := Aside0.mk (blk_below (g := gb172) (o := .cells #[.int .u64 0, .int .u64 0, .int .u64 0, .string (⟨#[]⟩ : ByteArray), .string (⟨#[]⟩ : ByteArray)] 29 (0, 0)) (by (with_reducible repeat (first | refine blk_drewN ?_ _ | refine blk_drew ?_ | refine blk_alloc ?_ _)); exact BK172.out) hb)
                              have n2_ := Aside0.mk (below_step (by repeat (first | (with_reducible first | exact HB.out | apply below_alloc | apply pw_below_drewN | apply below_drew1 | refine below_set ?_ GE149.out | refine below_set ?_ GE172.out) | exact HB.out)) hb)
                              clear BK149
                              clear BK172
                              clear HB
                              have BK149 := n0_
                              have BK172 := n1_
                              have HB := n2_
                              clear n0_ n1_ n2_
                              (try clear hb)
                              (try clear hb2)
                              (try clear hk)
                              (try clear hi)
                              refine hK.out _ _ ⟨(blk_cell BK149.out 0).trans rfl, (blk_cell BK149.out 1).trans rfl, (blk_cell BK149.out 2).trans rfl, (blk_cell BK149.out 3).trans rfl, (blk_cell BK149.out 4).trans rfl⟩ (fun hHeld => ?_)
                              clear hK K
                              refine norm_ (a' := ?_) ?_ ?_
                              rotate_left
                              ·
                               show Act.put _ (some 41) _ = _
                               simp only [Act.put, List.setIfInBounds_toArray, List.set_cons_zero, List.set_cons_succ, i64_w, i32_w]
                               rfl
                              refine pure_ (i := 5) (N := some 42) (v := ?_) (a' := ?_) #[true, true, true, true, true, true, false, true, true, true, true, false, false, false, true, false, false, false] rfl rfl (any_of HT_.out (by kernel_rfl)) (fun _ _ _ h => h) (Or.inl ⟨by rfl, ?_⟩) ?_ ?_
                              rotate_left
                              ·
                               intro w'
                               go_simp
                               with_reducible rfl
                              rotate_left
                              ·
                               simp only [Act.put, List.setIfInBounds_toArray, List.set_cons_zero, List.set_cons_succ, i64_w, i32_w]
                               rfl
                              exact norm_ (by first | (simp only [putAll, Act.put, List.setIfInBounds_toArray, List.set_cons_zero, List.set_cons_succ]; done) | (simp only [putAll, Act.put, List.setIfInBounds_toArray, List.set_cons_zero, List.set_cons_succ]; rfl)) (hJ4_14 (gb172) _ ⟨hHeld, (by (with_reducible repeat (first | refine blk_drewN ?_ _ | refine blk_drew ?_ | refine blk_alloc ?_ _)); exact BK149.out), (by (with_reducible repeat (first | refine blk_drewN ?_ _ | refine blk_drew ?_ | refine blk_alloc ?_ _)); exact BK172.out), GW172.out, GE172.out, NB149_172.out, NB172_149.out, (by repeat (first | (with_reducible first | exact HB.out | apply below_alloc | apply pw_below_drewN | apply below_drew1 | refine below_set ?_ GE149.out | refine below_set ?_ GE172.out) | exact HB.out))⟩)
                             ·
                              skip
                              refine box_step ?hg (N := 10) ?hd (cs := #[.int .u64 0, .int .u64 0, .int .u64 0, .string (⟨#[]⟩ : ByteArray), .string (⟨#[]⟩ : ByteArray)]) (t := 29) ?hr ?_; (case hd => rfl); (case hg => rfl); (case hr => first | (go_simp; done) | (go_simp; rfl))
                              intro gb173 hg w40 hbox hb
                              have n0_ := Aside0.mk (blk_below (by (with_reducible repeat (first | refine blk_drewN ?_ _ | refine blk_drew ?_ | refine blk_alloc ?_ _)); exact BK149.out) hb)
                              have n1_ := Aside0.mk (blk_below (g := gb172) (o := .cells #[.int .u64 0, .int .u64 0, .int .u64 0, .string (⟨#[]⟩ : ByteArray), .string (⟨#[]⟩ : ByteArray)] 29 (0, 0)) (by (with_reducible repeat (first | refine blk_drewN ?_ _ | refine blk_drew ?_ | refine blk_alloc ?_ _)); exact BK172.out) hb)
                              have n2_ := Aside0.mk (below_step (by repeat (first | (with_reducible first | exact HB.out | apply below_alloc | apply pw_below_drewN | apply below_drew1 | refine below_set ?_ GE149.out | refine below_set ?_ GE172.out) | exact HB.out)) hb)
                              have n3_ := Aside0.mk (hbox)
                              have n4_ := Aside0.mk ((by rw [hg]; exact (below_size (by repeat (first | (with_reducible first | exact HB.out | apply below_alloc | apply pw_below_drewN | apply below_drew1 | refine below_set ?_ GE149.out | refine below_set ?_ GE172.out) | exact HB.out))) : w.heap.size ≤ gb173))
                              have n5_ := Aside0.mk ((by rw [hg]; exact (below_size (by repeat (first | (with_reducible first | exact HB.out | apply below_alloc | apply pw_below_drewN | apply below_drew1 | refine below_set ?_ GE149.out | refine below_set ?_ GE172.out) | exact HB.out))) : w.heap.size ≤ gb173))
                              have n6_ := Aside0.mk ((by rw [hg]; exact Nat.ne_of_lt (blk_lt (g := gb149) (o := .cells #[.int .u64 a0_0, .int .u64 a0_1, .int .u64 a0_2, .string a0_3, .string a0_4] 29 (0, 0)) (by (with_reducible repeat (first | refine blk_drewN ?_ _ | refine blk_drew ?_ | refine blk_alloc ?_ _)); exact BK149.out)) : gb149 ≠ gb173))
                              have n7_ := Aside0.mk ((by rw [hg]; exact Nat.ne_of_gt (blk_lt (g := gb149) (o := .cells #[.int .u64 a0_0, .int .u64 a0_1, .int .u64 a0_2, .string a0_3, .string a0_4] 29 (0, 0)) (by (with_reducible repeat (first | refine blk_drewN ?_ _ | refine blk_drew ?_ | refine blk_alloc ?_ _)); exact BK149.out)) : gb173 ≠ gb149))
                              have n8_ := Aside0.mk ((by rw [hg]; exact Nat.ne_of_lt (blk_lt (g := gb172) (o := .cells #[.int .u64 0, .int .u64 0, .int .u64 0, .string (⟨#[]⟩ : ByteArray), .string (⟨#[]⟩ : ByteArray)] 29 (0, 0)) (by (with_reducible repeat (first | refine blk_drewN ?_ _ | refine blk_drew ?_ | refine blk_alloc ?_ _)); exact BK172.out)) : gb172 ≠ gb173))
                              have n9_ := Aside0.mk ((by rw [hg]; exact Nat.ne_of_gt (blk_lt (g := gb172) (o := .cells #[.int .u64 0, .int .u64 0, .int .u64 0, .string (⟨#[]⟩ : ByteArray), .string (⟨#[]⟩ : ByteArray)] 29 (0, 0)) (by (with_reducible repeat (first | refine blk_drewN ?_ _ | refine blk_drew ?_ | refine blk_alloc ?_ _)); exact BK172.out)) : gb173 ≠ gb172))
                              clear BK149
                              clear BK172
                              clear HB
                              have BK149 := n0_
                              have BK172 := n1_
                              have HB := n2_
                              have BK173 := n3_
                              have GW173 := n4_
                              have GE173 := n5_
                              have NB149_173 := n6_
                              have NB173_149 := n7_
                              have NB172_173 := n8_
                              have NB173_172 := n9_
                              clear n0_ n1_ n2_ n3_ n4_ n5_ n6_ n7_ n8_ n9_
                              clear hb hbox hg
                              refine hK.out _ _ ⟨(blk_cell BK149.out 0).trans rfl, (blk_cell BK149.out 1).trans rfl, (blk_cell BK149.out 2).trans rfl, (blk_cell BK149.out 3).trans rfl, (blk_cell BK149.out 4).trans rfl⟩ (fun hHeld => ?_)
                              clear hK K
                              refine norm_ (a' := ?_) ?_ ?_
                              rotate_left
                              ·
                               show Act.put _ (some 10) _ = _
                               simp only [Act.put, List.setIfInBounds_toArray, List.set_cons_zero, List.set_cons_succ, i64_w, i32_w]
                               rfl
                              exact norm_ (by first | (simp only [putAll, Act.put, List.setIfInBounds_toArray, List.set_cons_zero, List.set_cons_succ]; done) | (simp only [putAll, Act.put, List.setIfInBounds_toArray, List.set_cons_zero, List.set_cons_succ]; rfl)) (hJ14_15 (gb172, gb173) _ ⟨hHeld, (by (with_reducible repeat (first | refine blk_drewN ?_ _ | refine blk_drew ?_ | refine blk_alloc ?_ _)); exact BK149.out), (by (with_reducible repeat (first | refine blk_drewN ?_ _ | refine blk_drew ?_ | refine blk_alloc ?_ _)); exact BK172.out), (by (with_reducible repeat (first | refine blk_drewN ?_ _ | refine blk_drew ?_ | refine blk_alloc ?_ _)); exact BK173.out), GW172.out, GE172.out, NB149_172.out, NB172_149.out, NB173_172.out, NB172_173.out, GW173.out, GE173.out, NB149_173.out, NB173_149.out, (by repeat (first | (with_reducible first | exact HB.out | apply below_alloc | apply pw_below_drewN | apply below_drew1 | refine below_set ?_ GE149.out | refine below_set ?_ GE172.out | refine below_set ?_ GE173.out) | exact HB.out))⟩)
                           ·
                            skip
                            rintro _ w39 ⟨hS_, h0_, h1_⟩
                            have n0_ : Aside0 (w39.heap[gb149]? = some (.cells #[.int .u64 a0_0, .int .u64 a0_1, .int .u64 a0_2, .string a0_3, .string a0_4] 29 (0, 0))) := ⟨h0_⟩
                            have n1_ : Aside0 (Below w.heap.size w w39) := ⟨h1_⟩
                            clear BK149
                            clear HB
                            clear h0_ h1_
                            have BK149 := n0_
                            have HB := n1_
                            clear n0_ n1_
                            have hHeld : w39.cell? ⟨gb149, 0, none⟩ = some (.int .u64 a0_0) ∧ w39.cell? ⟨gb149, 1, none⟩ = some (.int .u64 a0_1) ∧ w39.cell? ⟨gb149, 2, none⟩ = some (.int .u64 a0_2) ∧ w39.cell? ⟨gb149, 3, none⟩ = some (.string a0_3) ∧ w39.cell? ⟨gb149, 4, none⟩ = some (.string a0_4) := hS_
                            refine norm_ (a' := ?_) ?_ ?_
                            rotate_left
                            ·
                             simp only [putAll, Act.put, List.setIfInBounds_toArray, List.set_cons_zero, List.set_cons_succ]
                             rfl
                            refine three_ (i := 6) (j := 14) (k := 15) (Ni := some 43) (Nj := some 9) (Nk := some 10) #[true, true, true, true, true, true, true, true, true, true, true, false, false, false, false, false, false, false] #[true, true, true, true, true, true, false, true, true, true, true, false, false, false, true, false, false, false] #[true, true, true, true, true, true, false, true, true, true, true, false, false, false, false, true, false, false] rfl rfl rfl rfl rfl rfl (three_of HT_.out (by kernel_rfl)) (by decide) (by decide) (by decide) (fun K hK => ?_) (fun K hK => ?_) (fun K hK => ?_)
                            ·
                             skip
                             refine goes_ Tryd.func29 (by kernel_rfl) rfl #[.agg #[.int .u64 a0_0, .int .u64 a0_1, .int .u64 a0_2, .string a0_3, .string a0_4], .string ((a1 ++ (⟨#[46]⟩ : ByteArray)) ++ t160)] (by rfl) rfl rfl (by (try simp only [List.map_toArray, List.map_cons, List.map_nil]); first | done | rfl | (simp only [List.length_drop, List.length_take]; rfl)) ?_
                             with_reducible refine (laws_svPre.calls a0_0 a0_1 a0_2 a0_3 a0_4 ((a1 ++ (⟨#[46]⟩ : ByteArray)) ++ t160) t161 t162 t163 t164 t165 _ A30.out).mono ?_
                             rintro e w40 ⟨rfl, hb⟩
                             refine ⟨_, rfl, ?_⟩
                             have n0_ := Aside0.mk (blk_below (by (with_reducible repeat (first | refine blk_drewN ?_ _ | refine blk_drew ?_ | refine blk_alloc ?_ _)); exact BK149.out) hb)
                             have n1_ := Aside0.mk (below_step (by repeat (first | (with_reducible first | exact HB.out | apply below_alloc | apply pw_below_drewN | apply below_drew1 | refine below_set ?_ GE149.out) | exact HB.out)) hb)
                             clear BK149
                             clear HB
                             have BK149 := n0_
                             have HB := n1_
                             clear n0_ n1_
                             (try clear hb)
                             (try clear hb2)
                             (try clear hk)
                             (try clear hi)
                             refine hK.out _ _ ⟨(blk_cell BK149.out 0).trans rfl, (blk_cell BK149.out 1).trans rfl, (blk_cell BK149.out 2).trans rfl, (blk_cell BK149.out 3).trans rfl, (blk_cell BK149.out 4).trans rfl⟩ (fun hHeld => ?_)
                             clear hK K
                             refine norm_ (a' := ?_) ?_ ?_
                             rotate_left
                             ·
                              show Act.put _ (some 43) _ = _
                              simp only [Act.put, List.setIfInBounds_toArray, List.set_cons_zero, List.set_cons_succ, i64_w, i32_w]
                              rfl
                             exact norm_ (by first | (simp only [putAll, Act.put, List.setIfInBounds_toArray, List.set_cons_zero, List.set_cons_succ]; done) | (simp only [putAll, Act.put, List.setIfInBounds_toArray, List.set_cons_zero, List.set_cons_succ]; rfl)) (hJ4_6 () _ ⟨hHeld, (by (with_reducible repeat (first | refine blk_drewN ?_ _ | refine blk_drew ?_ | refine blk_alloc ?_ _)); exact BK149.out), (by repeat (first | (with_reducible first | exact HB.out | apply below_alloc | apply pw_below_drewN | apply below_drew1 | refine below_set ?_ GE149.out) | exact HB.out))⟩)
                            ·
                             skip
                             refine box_step ?hg (N := 9) ?hd (cs := #[.int .u64 0, .int .u64 0, .int .u64 0, .string (⟨#[]⟩ : ByteArray), .string (⟨#[]⟩ : ByteArray)]) (t := 29) ?hr ?_; (case hd => rfl); (case hg => rfl); (case hr => first | (go_simp; done) | (go_simp; rfl))
                             intro gb172 hg w40 hbox hb
                             have n0_ := Aside0.mk (blk_below (by (with_reducible repeat (first | refine blk_drewN ?_ _ | refine blk_drew ?_ | refine blk_alloc ?_ _)); exact BK149.out) hb)
                             have n1_ := Aside0.mk (below_step (by repeat (first | (with_reducible first | exact HB.out | apply below_alloc | apply pw_below_drewN | apply below_drew1 | refine below_set ?_ GE149.out) | exact HB.out)) hb)
                             have n2_ := Aside0.mk (hbox)
                             have n3_ := Aside0.mk ((by rw [hg]; exact (below_size (by repeat (first | (with_reducible first | exact HB.out | apply below_alloc | apply pw_below_drewN | apply below_drew1 | refine below_set ?_ GE149.out) | exact HB.out))) : w.heap.size ≤ gb172))
                             have n4_ := Aside0.mk ((by rw [hg]; exact (below_size (by repeat (first | (with_reducible first | exact HB.out | apply below_alloc | apply pw_below_drewN | apply below_drew1 | refine below_set ?_ GE149.out) | exact HB.out))) : w.heap.size ≤ gb172))
                             have n5_ := Aside0.mk ((by rw [hg]; exact Nat.ne_of_lt (blk_lt (g := gb149) (o := .cells #[.int .u64 a0_0, .int .u64 a0_1, .int .u64 a0_2, .string a0_3, .string a0_4] 29 (0, 0)) (by (with_reducible repeat (first | refine blk_drewN ?_ _ | refine blk_drew ?_ | refine blk_alloc ?_ _)); exact BK149.out)) : gb149 ≠ gb172))
                             have n6_ := Aside0.mk ((by rw [hg]; exact Nat.ne_of_gt (blk_lt (g := gb149) (o := .cells #[.int .u64 a0_0, .int .u64 a0_1, .int .u64 a0_2, .string a0_3, .string a0_4] 29 (0, 0)) (by (with_reducible repeat (first | refine blk_drewN ?_ _ | refine blk_drew ?_ | refine blk_alloc ?_ _)); exact BK149.out)) : gb172 ≠ gb149))
                             clear BK149
                             clear HB
                             have BK149 := n0_
                             have HB := n1_
                             have BK172 := n2_
                             have GW172 := n3_
                             have GE172 := n4_
                             have NB149_172 := n5_
                             have NB172_149 := n6_
                             clear n0_ n1_ n2_ n3_ n4_ n5_ n6_
                             clear hb hbox hg
                             refine hK.out _ _ ⟨(blk_cell BK149.out 0).trans rfl, (blk_cell BK149.out 1).trans rfl, (blk_cell BK149.out 2).trans rfl, (blk_cell BK149.out 3).trans rfl, (blk_cell BK149.out 4).trans rfl⟩ (fun hHeld => ?_)
                             clear hK K
                             refine norm_ (a' := ?_) ?_ ?_
                             rotate_left
                             ·
                              show Act.put _ (some 9) _ = _
                              simp only [Act.put, List.setIfInBounds_toArray, List.set_cons_zero, List.set_cons_succ, i64_w, i32_w]
                              rfl
                             exact norm_ (by first | (simp only [putAll, Act.put, List.setIfInBounds_toArray, List.set_cons_zero, List.set_cons_succ]; done) | (simp only [putAll, Act.put, List.setIfInBounds_toArray, List.set_cons_zero, List.set_cons_succ]; rfl)) (hJ4_14 (gb172) _ ⟨hHeld, (by (with_reducible repeat (first | refine blk_drewN ?_ _ | refine blk_drew ?_ | refine blk_alloc ?_ _)); exact BK149.out), (by (with_reducible repeat (first | refine blk_drewN ?_ _ | refine blk_drew ?_ | refine blk_alloc ?_ _)); exact BK172.out), GW172.out, GE172.out, NB149_172.out, NB172_149.out, (by repeat (first | (with_reducible first | exact HB.out | apply below_alloc | apply pw_below_drewN | apply below_drew1 | refine below_set ?_ GE149.out | refine below_set ?_ GE172.out) | exact HB.out))⟩)
                            ·
                             skip
                             refine box_step ?hg (N := 10) ?hd (cs := #[.int .u64 0, .int .u64 0, .int .u64 0, .string (⟨#[]⟩ : ByteArray), .string (⟨#[]⟩ : ByteArray)]) (t := 29) ?hr ?_; (case hd => rfl); (case hg => rfl); (case hr => first | (go_simp; done) | (go_simp; rfl))
                             intro gb173 hg w40 hbox hb
                             have n0_ := Aside0.mk (blk_below (by (with_reducible repeat (first | refine blk_drewN ?_ _ | refine blk_drew ?_ | refine blk_alloc ?_ _)); exact BK149.out) hb)
                             have n1_ := Aside0.mk (below_step (by repeat (first | (with_reducible first | exact HB.out | apply below_alloc | apply pw_below_drewN | apply below_drew1 | refine below_set ?_ GE149.out) | exact HB.out)) hb)
                             have n2_ := Aside0.mk (hbox)
                             have n3_ := Aside0.mk ((by rw [hg]; exact (below_size (by repeat (first | (with_reducible first | exact HB.out | apply below_alloc | apply pw_below_drewN | apply below_drew1 | refine below_set ?_ GE149.out) | exact HB.out))) : w.heap.size ≤ gb173))
                             have n4_ := Aside0.mk ((by rw [hg]; exact (below_size (by repeat (first | (with_reducible first | exact HB.out | apply below_alloc | apply pw_below_drewN | apply below_drew1 | refine below_set ?_ GE149.out) | exact HB.out))) : w.heap.size ≤ gb173))
                             have n5_ := Aside0.mk ((by rw [hg]; exact Nat.ne_of_lt (blk_lt (g := gb149) (o := .cells #[.int .u64 a0_0, .int .u64 a0_1, .int .u64 a0_2, .string a0_3, .string a0_4] 29 (0, 0)) (by (with_reducible repeat (first | refine blk_drewN ?_ _ | refine blk_drew ?_ | refine blk_alloc ?_ _)); exact BK149.out)) : gb149 ≠ gb173))
                             have n6_ := Aside0.mk ((by rw [hg]; exact Nat.ne_of_gt (blk_lt (g := gb149) (o := .cells #[.int .u64 a0_0, .int .u64 a0_1, .int .u64 a0_2, .string a0_3, .string a0_4] 29 (0, 0)) (by (with_reducible repeat (first | refine blk_drewN ?_ _ | refine blk_drew ?_ | refine blk_alloc ?_ _)); exact BK149.out)) : gb173 ≠ gb149))
                             clear BK149
                             clear HB
                             have BK149 := n0_
                             have HB := n1_
                             have BK173 := n2_
                             have GW173 := n3_
                             have GE173 := n4_
                             have NB149_173 := n5_
                             have NB173_149 := n6_
                             clear n0_ n1_ n2_ n3_ n4_ n5_ n6_
                             clear hb hbox hg
                             refine hK.out _ _ ⟨(blk_cell BK149.out 0).trans rfl, (blk_cell BK149.out 1).trans rfl, (blk_cell BK149.out 2).trans rfl, (blk_cell BK149.out 3).trans rfl, (blk_cell BK149.out 4).trans rfl⟩ (fun hHeld => ?_)
                             clear hK K
                             refine norm_ (a' := ?_) ?_ ?_
                             rotate_left
                             ·
                              show Act.put _ (some 10) _ = _
                              simp only [Act.put, List.setIfInBounds_toArray, List.set_cons_zero, List.set_cons_succ, i64_w, i32_w]
                              rfl
                             exact norm_ (by first | (simp only [putAll, Act.put, List.setIfInBounds_toArray, List.set_cons_zero, List.set_cons_succ]; done) | (simp only [putAll, Act.put, List.setIfInBounds_toArray, List.set_cons_zero, List.set_cons_succ]; rfl)) (hJ4_15 (gb173) _ ⟨hHeld, (by (with_reducible repeat (first | refine blk_drewN ?_ _ | refine blk_drew ?_ | refine blk_alloc ?_ _)); exact BK149.out), (by (with_reducible repeat (first | refine blk_drewN ?_ _ | refine blk_drew ?_ | refine blk_alloc ?_ _)); exact BK173.out), GW173.out, GE173.out, NB149_173.out, NB173_149.out, (by repeat (first | (with_reducible first | exact HB.out | apply below_alloc | apply pw_below_drewN | apply below_drew1 | refine below_set ?_ GE149.out | refine below_set ?_ GE173.out) | exact HB.out))⟩)
                          ·
                           skip
                           rintro ⟨gb172, gb173⟩ w40 ⟨hS_, h0_, h1_, h2_, h3_, h4_, h5_, h6_, h7_, h8_, h9_, h10_, h11_, h12_, h13_⟩
                           have n0_ : Aside0 (w40.heap[gb149]? = some (.cells #[.int .u64 a0_0, .int .u64 a0_1, .int .u64 a0_2, .string a0_3, .string a0_4] 29 (0, 0))) := ⟨h0_⟩
                           have n1_ : Aside0 (w40.heap[gb172]? = some (.cells #[.int .u64 0, .int .u64 0, .int .u64 0, .string (⟨#[]⟩ : ByteArray), .string (⟨#[]⟩ : ByteArray)] 29 (0, 0))) := ⟨h1_⟩
                           have n2_ : Aside0 (w40.heap[gb173]? = some (.cells #[.int .u64 0, .int .u64 0, .int .u64 0, .string (⟨#[]⟩ : ByteArray), .string (⟨#[]⟩ : ByteArray)] 29 (0, 0))) := ⟨h2_⟩
                           have n3_ : Aside0 (w.heap.size ≤ gb172) := ⟨h3_⟩
                           have n4_ : Aside0 (w.heap.size ≤ gb172) := ⟨h4_⟩
                           have n5_ : Aside0 (gb149 ≠ gb172) := ⟨h5_⟩
                           have n6_ : Aside0 (gb172 ≠ gb149) := ⟨h6_⟩
                           have n7_ : Aside0 (gb173 ≠ gb172) := ⟨h7_⟩
                           have n8_ : Aside0 (gb172 ≠ gb173) := ⟨h8_⟩
                           have n9_ : Aside0 (w.heap.size ≤ gb173) := ⟨h9_⟩
                           have n10_ : Aside0 (w.heap.size ≤ gb173) := ⟨h10_⟩
                           have n11_ : Aside0 (gb149 ≠ gb173) := ⟨h11_⟩
                           have n12_ : Aside0 (gb173 ≠ gb149) := ⟨h12_⟩
                           have n13_ : Aside0 (Below w.heap.size w w40) := ⟨h13_⟩
                           clear BK149
                           clear HB
                           clear h0_ h1_ h2_ h3_ h4_ h5_ h6_ h7_ h8_ h9_ h10_ h11_ h12_ h13_
                           have BK149 := n0_
                           have BK172 := n1_
                           have BK173 := n2_
                           have GW172 := n3_
                           have GE172 := n4_
                           have NB149_172 := n5_
                           have NB172_149 := n6_
                           have NB173_172 := n7_
                           have NB172_173 := n8_
                           have GW173 := n9_
                           have GE173 := n10_
                           have NB149_173 := n11_
                           have NB173_149 := n12_
                           have HB := n13_
                           clear n0_ n1_ n2_ n3_ n4_ n5_ n6_ n7_ n8_ n9_ n10_ n11_ n12_ n13_
                           have hHeld : w40.cell? ⟨gb149, 0, none⟩ = some (.int .u64 a0_0) ∧ w40.cell? ⟨gb149, 1, none⟩ = some (.int .u64 a0_1) ∧ w40.cell? ⟨gb149, 2, none⟩ = some (.int .u64 a0_2) ∧ w40.cell? ⟨gb149, 3, none⟩ = some (.string a0_3) ∧ w40.cell? ⟨gb149, 4, none⟩ = some (.string a0_4) := hS_
                           refine norm_ (a' := ?_) ?_ ?_
                           rotate_left
                           ·
                            simp only [putAll, Act.put, List.setIfInBounds_toArray, List.set_cons_zero, List.set_cons_succ]
                            rfl
                           refine one_ (i := 4) (N := some 41) #[true, true, true, true, true, false, false, true, true, true, true, false, false, false, true, true, false, false] rfl rfl (one_of HT_.out (by kernel_rfl)) (by decide) (fun K hK => ?_)
                           refine goes_ Tryd.func30 (by kernel_rfl) rfl #[.int .u64 a2] (by rfl) rfl rfl (by (try simp only [List.map_toArray, List.map_cons, List.map_nil]); first | done | rfl | (simp only [List.length_drop, List.length_take]; rfl)) ?_
                           with_reducible refine (spec_Decimal.calls kj13 a2 t160 _ A28.out).mono ?_
                           rintro e w41 ⟨rfl, hb⟩
                           refine ⟨_, rfl, ?_⟩
                           have n0_ := Aside0.mk (blk_below (by (with_reducible repeat (first | refine blk_drewN ?_ _ | refine blk_drew ?_ | refine blk_alloc ?_ _)); exact BK149.out) hb)
                           have n1_ := Aside0.mk (blk_below (g := gb172) (o := .cells #[.int .u64 0, .int .u64 0, .int .u64 0, .string (⟨#[]⟩ : ByteArray), .string (⟨#[]⟩ : ByteArray)] 29 (0, 0)) (by (with_reducible repeat (first | refine blk_drewN ?_ _ | refine blk_drew ?_ | refine blk_alloc ?_ _)); exact BK172.out) hb)
                           have n2_ := Aside0.mk (blk_below (g := gb173) (o := .cells #[.int .u64 0, .int .u64 0, .int .u64 0, .string (⟨#[]⟩ : ByteArray), .string (⟨#[]⟩ : ByteArray)] 29 (0, 0)) (by (with_reducible repeat (first | refine blk_drewN ?_ _ | refine blk_drew ?_ | refine blk_alloc ?_ _)); exact BK173.out) hb)
                           have n3_ := Aside0.mk (below_step (by repeat (first | (with_reducible first | exact HB.out | apply below_alloc | apply pw_below_drewN | apply below_drew1 | refine below_set ?_ GE149.out | refine below_set ?_ GE172.out | refine below_set ?_ GE173.out) | exact HB.out)) hb)
                           clear BK149
                           clear BK172
                           clear BK173
                           clear HB
                           have BK149 := n0_
                           have BK172 := n1_
                           have BK173 := n2_
                           have HB := n3_
                           clear n0_ n1_ n2_ n3_
                           (try clear hb)
                           (try clear hb2)
                           (try clear hk)
                           (try clear hi)
                           refine hK.out _ _ ⟨(blk_cell BK149.out 0).trans rfl, (blk_cell BK149.out 1).trans rfl, (blk_cell BK149.out 2).trans rfl, (blk_cell BK149.out 3).trans rfl, (blk_cell BK149.out 4).trans rfl⟩ (fun hHeld => ?_)
                           clear hK K
                           refine norm_ (a' := ?_) ?_ ?_
                           rotate_left
                           ·
                            show Act.put _ (some 41) _ = _
                            simp only [Act.put, List.setIfInBounds_toArray, List.set_cons_zero, List.set_cons_succ, i64_w, i32_w]
                            rfl
                           refine pure_ (i := 5) (N := some 42) (v := ?_) (a' := ?_) #[true, true, true, true, true, true, false, true, true, true, true, false, false, false, true, true, false, false] rfl rfl (any_of HT_.out (by kernel_rfl)) (fun _ _ _ h => h) (Or.inl ⟨by rfl, ?_⟩) ?_ ?_
                           rotate_left
                           ·
                            intro w'
                            go_simp
                            with_reducible rfl
                           rotate_left
                           ·
                            simp only [Act.put, List.setIfInBounds_toArray, List.set_cons_zero, List.set_cons_succ, i64_w, i32_w]
                            rfl
                           exact norm_ (by first | (simp only [putAll, Act.put, List.setIfInBounds_toArray, List.set_cons_zero, List.set_cons_succ]; done) | (simp only [putAll, Act.put, List.setIfInBounds_toArray, List.set_cons_zero, List.set_cons_succ]; rfl)) (hJ4_14_15 (gb172, gb173) _ ⟨hHeld, (by (with_reducible repeat (first | refine blk_drewN ?_ _ | refine blk_drew ?_ | refine blk_alloc ?_ _)); exact BK149.out), (by (with_reducible repeat (first | refine blk_drewN ?_ _ | refine blk_drew ?_ | refine blk_alloc ?_ _)); exact BK172.out), (by (with_reducible repeat (first | refine blk_drewN ?_ _ | refine blk_drew ?_ | refine blk_alloc ?_ _)); exact BK173.out), GW172.out, GE172.out, NB149_172.out, NB172_149.out, NB173_172.out, NB172_173.out, GW173.out, GE173.out, NB149_173.out, NB173_149.out, (by repeat (first | (with_reducible first | exact HB.out | apply below_alloc | apply pw_below_drewN | apply below_drew1 | refine below_set ?_ GE149.out | refine below_set ?_ GE172.out | refine below_set ?_ GE173.out) | exact HB.out))⟩)
                         ·
                          skip
                          rintro gb173 w40 ⟨hS_, h0_, h1_, h2_, h3_, h4_, h5_, h6_⟩
                          have n0_ : Aside0 (w40.heap[gb149]? = some (.cells #[.int .u64 a0_0, .int .u64 a0_1, .int .u64 a0_2, .string a0_3, .string a0_4] 29 (0, 0))) := ⟨h0_⟩
                          have n1_ : Aside0 (w40.heap[gb173]? = some (.cells #[.int .u64 0, .int .u64 0, .int .u64 0, .string (⟨#[]⟩ : ByteArray), .string (⟨#[]⟩ : ByteArray)] 29 (0, 0))) := ⟨h1_⟩
                          have n2_ : Aside0 (w.heap.size ≤ gb173) := ⟨h2_⟩
                          have n3_ : Aside0 (w.heap.size ≤ gb173) := ⟨h3_⟩
                          have n4_ : Aside0 (gb149 ≠ gb173) := ⟨h4_⟩
                          have n5_ : Aside0 (gb173 ≠ gb149) := ⟨h5_⟩
                          have n6_ : Aside0 (Below w.heap.size w w40) := ⟨h6_⟩
                          clear BK149
                          clear HB
                          clear h0_ h1_ h2_ h3_ h4_ h5_ h6_
                          have BK149 := n0_
                          have BK173 := n1_
                          have GW173 := n2_
                          have GE173 := n3_
                          have NB149_173 := n4_
                          have NB173_149 := n5_
                          have HB := n6_
                          clear n0_ n1_ n2_ n3_ n4_ n5_ n6_
                          have hHeld : w40.cell? ⟨gb149, 0, none⟩ = some (.int .u64 a0_0) ∧ w40.cell? ⟨gb149, 1, none⟩ = some (.int .u64 a0_1) ∧ w40.cell? ⟨gb149, 2, none⟩ = some (.int .u64 a0_2) ∧ w40.cell? ⟨gb149, 3, none⟩ = some (.string a0_3) ∧ w40.cell? ⟨gb149, 4, none⟩ = some (.string a0_4) := hS_
                          refine norm_ (a' := ?_) ?_ ?_
                          rotate_left
                          ·
                           simp only [putAll, Act.put, List.setIfInBounds_toArray, List.set_cons_zero, List.set_cons_succ]
                           rfl
                          refine two_ (i := 6) (j := 14) (Ni := some 43) (Nj := some 9) #[true, true, true, true, true, true, true, true, true, true, true, false, false, false, false, true, false, false] #[true, true, true, true, true, true, false, true, true, true, true, false, false, false, true, true, false, false] rfl rfl rfl rfl (two_of HT_.out (by kernel_rfl)) (by decide) (by decide) (fun K hK => ?_) (fun K hK => ?_)
                          ·
                           skip
                           refine goes_ Tryd.func29 (by kernel_rfl) rfl #[.agg #[.int .u64 a0_0, .int .u64 a0_1, .int .u64 a0_2, .string a0_3, .string a0_4], .string ((a1 ++ (⟨#[46]⟩ : ByteArray)) ++ t160)] (by rfl) rfl rfl (by (try simp only [List.map_toArray, List.map_cons, List.map_nil]); first | done | rfl | (simp only [List.length_drop, List.length_take]; rfl)) ?_
                           with_reducible refine (laws_svPre.calls a0_0 a0_1 a0_2 a0_3 a0_4 ((a1 ++ (⟨#[46]⟩ : ByteArray)) ++ t160) t161 t162 t163 t164 t165 _ A30.out).mono ?_
                           rintro e w41 ⟨rfl, hb⟩
                           refine ⟨_, rfl, ?_⟩
                           have n0_ := Aside0.mk (blk_below (by (with_reducible repeat (first | refine blk_drewN ?_ _ | refine blk_drew ?_ | refine blk_alloc ?_ _)); exact BK149.out) hb)
                           have n1_ := Aside0.mk (blk_below (g := gb173) (o := .cells #[.int .u64 0, .int .u64 0, .int .u64 0, .string (⟨#[]⟩ : ByteArray), .string (⟨#[]⟩ : ByteArray)] 29 (0, 0)) (by (with_reducible repeat (first | refine blk_drewN ?_ _ | refine blk_drew ?_ | refine blk_alloc ?_ _)); exact BK173.out) hb)
                           have n2_ := Aside0.mk (below_step (by repeat (first | (with_reducible first | exact HB.out | apply below_alloc | apply pw_below_drewN | apply below_drew1 | refine below_set ?_ GE149.out | refine below_set ?_ GE173.out) | exact HB.out)) hb)
                           clear BK149
                           clear BK173
                           clear HB
                           have BK149 := n0_
                           have BK173 := n1_
                           have HB := n2_
                           clear n0_ n1_ n2_
                           (try clear hb)
                           (try clear hb2)
                           (try clear hk)
                           (try clear hi)
                           refine hK.out _ _ ⟨(blk_cell BK149.out 0).trans rfl, (blk_cell BK149.out 1).trans rfl, (blk_cell BK149.out 2).trans rfl, (blk_cell BK149.out 3).trans rfl, (blk_cell BK149.out 4).trans rfl⟩ (fun hHeld => ?_)
                           clear hK K
                           refine norm_ (a' := ?_) ?_ ?_
                           rotate_left
                           ·
                            show Act.put _ (some 43) _ = _
                            simp only [Act.put, List.setIfInBounds_toArray, List.set_cons_zero, List.set_cons_succ, i64_w, i32_w]
                            rfl
                           exact norm_ (by first | (simp only [putAll, Act.put, List.setIfInBounds_toArray, List.set_cons_zero, List.set_cons_succ]; done) | (simp only [putAll, Act.put, List.setIfInBounds_toArray, List.set_cons_zero, List.set_cons_succ]; rfl)) (hJ4_6_15 (gb173) _ ⟨hHeld, (by (with_reducible repeat (first | refine blk_drewN ?_ _ | refine blk_drew ?_ | refine blk_alloc ?_ _)); exact BK149.out), (by (with_reducible repeat (first | refine blk_drewN ?_ _ | refine blk_drew ?_ | refine blk_alloc ?_ _)); exact BK173.out), GW173.out, GE173.out, NB149_173.out, NB173_149.out, (by repeat (first | (with_reducible first | exact HB.out | apply below_alloc | apply pw_below_drewN | apply below_drew1 | refine below_set ?_ GE149.out | refine below_set ?_ GE173.out) | exact HB.out))⟩)
                          ·
                           skip
                           refine box_step ?hg (N := 9) ?hd (cs := #[.int .u64 0, .int .u64 0, .int .u64 0, .string (⟨#[]⟩ : ByteArray), .string (⟨#[]⟩ : ByteArray)]) (t := 29) ?hr ?_; (case hd => rfl); (case hg => rfl); (case hr => first | (go_simp; done) | (go_simp; rfl))
                           intro gb172 hg w41 hbox hb
                           have n0_ := Aside0.mk (blk_below (by (with_reducible repeat (first | refine blk_drewN ?_ _ | refine blk_drew ?_ | refine blk_alloc ?_ _)); exact BK149.out) hb)
                           have n1_ := Aside0.mk (blk_below (g := gb173) (o := .cells #[.int .u64 0, .int .u64 0, .int .u64 0, .string (⟨#[]⟩ : ByteArray), .string (⟨#[]⟩ : ByteArray)] 29 (0, 0)) (by (with_reducible repeat (first | refine blk_drewN ?_ _ | refine blk_drew ?_ | refine blk_alloc ?_ _)); exact BK173.out) hb)
                           have n2_ := Aside0.mk (below_step (by repeat (first | (with_reducible first | exact HB.out | apply below_alloc | apply pw_below_drewN | apply below_drew1 | refine below_set ?_ GE149.out | refine below_set ?_ GE173.out) | exact HB.out)) hb)
                           have n3_ := Aside0.mk (hbox)
                           have n4_ := Aside0.mk ((by rw [hg]; exact (below_size (by repeat (first | (with_reducible first | exact HB.out | apply below_alloc | apply pw_below_drewN | apply below_drew1 | refine below_set ?_ GE149.out | refine below_set ?_ GE173.out) | exact HB.out))) : w.heap.size ≤ gb172))
                           have n5_ := Aside0.mk ((by rw [hg]; exact (below_size (by repeat (first | (with_reducible first | exact HB.out | apply below_alloc | apply pw_below_drewN | apply below_drew1 | refine below_set ?_ GE149.out | refine below_set ?_ GE173.out) | exact HB.out))) : w.heap.size ≤ gb172))
                           have n6_ := Aside0.mk ((by rw [hg]; exact Nat.ne_of_lt (blk_lt (g := gb149) (o := .cells #[.int .u64 a0_0, .int .u64 a0_1, .int .u64 a0_2, .string a0_3, .string a0_4] 29 (0, 0)) (by (with_reducible repeat (first | refine blk_drewN ?_ _ | refine blk_drew ?_ | refine blk_alloc ?_ _)); exact BK149.out)) : gb149 ≠ gb172))
                           have n7_ := Aside0.mk ((by rw [hg]; exact Nat.ne_of_gt (blk_lt (g := gb149) (o := .cells #[.int .u64 a0_0, .int .u64 a0_1, .int .u64 a0_2, .string a0_3, .string a0_4] 29 (0, 0)) (by (with_reducible repeat (first | refine blk_drewN ?_ _ | refine blk_drew ?_ | refine blk_alloc ?_ _)); exact BK149.out)) : gb172 ≠ gb149))
                           have n8_ := Aside0.mk ((by rw [hg]; exact Nat.ne_of_lt (blk_lt (g := gb173) (o := .cells #[.int .u64 0, .int .u64 0, .int .u64 0, .string (⟨#[]⟩ : ByteArray), .string (⟨#[]⟩ : ByteArray)] 29 (0, 0)) (by (with_reducible repeat (first | refine blk_drewN ?_ _ | refine blk_drew ?_ | refine blk_alloc ?_ _)); exact BK173.out)) : gb173 ≠ gb172))
                           have n9_ := Aside0.mk ((by rw [hg]; exact Nat.ne_of_gt (blk_lt (g := gb173) (o := .cells #[.int .u64 0, .int .u64 0, .int .u64 0, .string (⟨#[]⟩ : ByteArray), .string (⟨#[]⟩ : ByteArray)] 29 (0, 0)) (by (with_reducible repeat (first | refine blk_drewN ?_ _ | refine blk_drew ?_ | refine blk_alloc ?_ _)); exact BK173.out)) : gb172 ≠ gb173))
                           clear BK149
                           clear BK173
                           clear HB
                           have BK149 := n0_
                           have BK173 := n1_
                           have HB := n2_
                           have BK172 := n3_
                           have GW172 := n4_
                           have GE172 := n5_
                           have NB149_172 := n6_
                           have NB172_149 := n7_
                           have NB173_172 := n8_
                           have NB172_173 := n9_
                           clear n0_ n1_ n2_ n3_ n4_ n5_ n6_ n7_ n8_ n9_
                           clear hb hbox hg
                           refine hK.out _ _ ⟨(blk_cell BK149.out 0).trans rfl, (blk_cell BK149.out 1).trans rfl, (blk_cell BK149.out 2).trans rfl, (blk_cell BK149.out 3).trans rfl, (blk_cell BK149.out 4).trans rfl⟩ (fun hHeld => ?_)
                           clear hK K
                           refine norm_ (a' := ?_) ?_ ?_
                           rotate_left
                           ·
                            show Act.put _ (some 9) _ = _
                            simp only [Act.put, List.setIfInBounds_toArray, List.set_cons_zero, List.set_cons_succ, i64_w, i32_w]
                            rfl
                           exact norm_ (by first | (simp only [putAll, Act.put, List.setIfInBounds_toArray, List.set_cons_zero, List.set_cons_succ]; done) | (simp only [putAll, Act.put, List.setIfInBounds_toArray, List.set_cons_zero, List.set_cons_succ]; rfl)) (hJ4_14_15 (gb172, gb173) _ ⟨hHeld, (by (with_reducible repeat (first | refine blk_drewN ?_ _ | refine blk_drew ?_ | refine blk_alloc ?_ _)); exact BK149.out), (by (with_reducible repeat (first | refine blk_drewN ?_ _ | refine blk_drew ?_ | refine blk_alloc ?_ _)); exact BK172.out), (by (with_reducible repeat (first | refine blk_drewN ?_ _ | refine blk_drew ?_ | refine blk_alloc ?_ _)); exact BK173.out), GW172.out, GE172.out, NB149_172.out, NB172_149.out, NB173_172.out, NB172_173.out, GW173.out, GE173.out, NB149_173.out, NB173_149.out, (by repeat (first | (with_reducible first | exact HB.out | apply below_alloc | apply pw_below_drewN | apply below_drew1 | refine below_set ?_ GE149.out | refine below_set ?_ GE173.out | refine below_set ?_ GE172.out) | exact HB.out))⟩)
                        ·
                         skip
                         rintro gb172 w40 ⟨hS_, h0_, h1_, h2_, h3_, h4_, h5_, h6_⟩
                         have n0_ : Aside0 (w40.heap[gb149]? = some (.cells #[.int .u64 a0_0, .int .u64 a0_1, .int .u64 a0_2, .string a0_3, .string a0_4] 29 (0, 0))) := ⟨h0_⟩
                         have n1_ : Aside0 (w40.heap[gb172]? = some (.cells #[.int .u64 0, .int .u64 0, .int .u64 0, .string (⟨#[]⟩ : ByteArray), .string (⟨#[]⟩ : ByteArray)] 29 (0, 0))) := ⟨h1_⟩
                         have n2_ : Aside0 (w.heap.size ≤ gb172) := ⟨h2_⟩
                         have n3_ : Aside0 (w.heap.size ≤ gb172) := ⟨h3_⟩
                         have n4_ : Aside0 (gb149 ≠ gb172) := ⟨h4_⟩
                         have n5_ : Aside0 (gb172 ≠ gb149) := ⟨h5_⟩
                         have n6_ : Aside0 (Below w.heap.size w w40) := ⟨h6_⟩
                         clear BK149
                         clear HB
                         clear h0_ h1_ h2_ h3_ h4_ h5_ h6_
                         have BK149 := n0_
                         have BK172 := n1_
                         have GW172 := n2_
                         have GE172 := n3_
                         have NB149_172 := n4_
                         have NB172_149 := n5_
                         have HB := n6_
                         clear n0_ n1_ n2_ n3_ n4_ n5_ n6_
                         have hHeld : w40.cell? ⟨gb149, 0, none⟩ = some (.int .u64 a0_0) ∧ w40.cell? ⟨gb149, 1, none⟩ = some (.int .u64 a0_1) ∧ w40.cell? ⟨gb149, 2, none⟩ = some (.int .u64 a0_2) ∧ w40.cell? ⟨gb149, 3, none⟩ = some (.string a0_3) ∧ w40.cell? ⟨gb149, 4, none⟩ = some (.string a0_4) := hS_
                         refine norm_ (a' := ?_) ?_ ?_
                         rotate_left
                         ·
                          simp only [putAll, Act.put, List.setIfInBounds_toArray, List.set_cons_zero, List.set_cons_succ]
                          rfl
                         refine two_ (i := 6) (j := 15) (Ni := some 43) (Nj := some 10) #[true, true, true, true, true, true, true, true, true, true, true, false, false, false, true, false, false, false] #[true, true, true, true, true, true, false, true, true, true, true, false, false, false, true, true, false, false] rfl rfl rfl rfl (two_of HT_.out (by kernel_rfl)) (by decide) (by decide) (fun K hK => ?_) (fun K hK => ?_)
                         ·
                          skip
                          refine goes_ Tryd.func29 (by kernel_rfl) rfl #[.agg #[.int .u64 a0_0, .int .u64 a0_1, .int .u64 a0_2, .string a0_3, .string a0_4], .string ((a1 ++ (⟨#[46]⟩ : ByteArray)) ++ t160)] (by rfl) rfl rfl (by (try simp only [List.map_toArray, List.map_cons, List.map_nil]); first | done | rfl | (simp only [List.length_drop, List.length_take]; rfl)) ?_
                          with_reducible refine (laws_svPre.calls a0_0 a0_1 a0_2 a0_3 a0_4 ((a1 ++ (⟨#[46]⟩ : ByteArray)) ++ t160) t161 t162 t163 t164 t165 _ A30.out).mono ?_
                          rintro e w41 ⟨rfl, hb⟩
                          refine ⟨_, rfl, ?_⟩
                          have n0_ := Aside0.mk (blk_below (by (with_reducible repeat (first | refine blk_drewN ?_ _ | refine blk_drew ?_ | refine blk_alloc ?_ _)); exact BK149.out) hb)
                          have n1_ := Aside0.mk (blk_below (g := gb172) (o := .cells #[.int .u64 0, .int .u64 0, .int .u64 0, .string (⟨#[]⟩ : ByteArray), .string (⟨#[]⟩ : ByteArray)] 29 (0, 0)) (by (with_reducible repeat (first | refine blk_drewN ?_ _ | refine blk_drew ?_ | refine blk_alloc ?_ _)); exact BK172.out) hb)
                          have n2_ := Aside0.mk (below_step (by repeat (first | (with_reducible first | exact HB.out | apply below_alloc | apply pw_below_drewN | apply below_drew1 | refine below_set ?_ GE149.out | refine below_set ?_ GE172.out) | exact HB.out)) hb)
                          clear BK149
                          clear BK172
                          clear HB
                          have BK149 := n0_
                          have BK172 := n1_
                          have HB := n2_
                          clear n0_ n1_ n2_
                          (try clear hb)
                          (try clear hb2)
                          (try clear hk)
                          (try clear hi)
                          refine hK.out _ _ ⟨(blk_cell BK149.out 0).trans rfl, (blk_cell BK149.out 1).trans rfl, (blk_cell BK149.out 2).trans rfl, (blk_cell BK149.out 3).trans rfl, (blk_cell BK149.out 4).trans rfl⟩ (fun hHeld => ?_)
                          clear hK K
                          refine norm_ (a' := ?_) ?_ ?_
                          rotate_left
                          ·
                           show Act.put _ (some 43) _ = _
                           simp only [Act.put, List.setIfInBounds_toArray, List.set_cons_zero, List.set_cons_succ, i64_w, i32_w]
                           rfl
                          exact norm_ (by first | (simp only [putAll, Act.put, List.setIfInBounds_toArray, List.set_cons_zero, List.set_cons_succ]; done) | (simp only [putAll, Act.put, List.setIfInBounds_toArray, List.set_cons_zero, List.set_cons_succ]; rfl)) (hJ4_6_14 (gb172) _ ⟨hHeld, (by (with_reducible repeat (first | refine blk_drewN ?_ _ | refine blk_drew ?_ | refine blk_alloc ?_ _)); exact BK149.out), (by (with_reducible repeat (first | refine blk_drewN ?_ _ | refine blk_drew ?_ | refine blk_alloc ?_ _)); exact BK172.out), GW172.out, GE172.out, NB149_172.out, NB172_149.out, (by repeat (first | (with_reducible first | exact HB.out | apply below_alloc | apply pw_below_drewN | apply below_drew1 | refine below_set ?_ GE149.out | refine below_set ?_ GE172.out) | exact HB.out))⟩)
                         ·
                          skip
                          refine box_step ?hg (N := 10) ?hd (cs := #[.int .u64 0, .int .u64 0, .int .u64 0, .string (⟨#[]⟩ : ByteArray), .string (⟨#[]⟩ : ByteArray)]) (t := 29) ?hr ?_; (case hd => rfl); (case hg => rfl); (case hr => first | (go_simp; done) | (go_simp; rfl))
                          intro gb173 hg w41 hbox hb
                          have n0_ := Aside0.mk (blk_below (by (with_reducible repeat (first | refine blk_drewN ?_ _ | refine blk_drew ?_ | refine blk_alloc ?_ _)); exact BK149.out) hb)
                          have n1_ := Aside0.mk (blk_below (g := gb172) (o := .cells #[.int .u64 0, .int .u64 0, .int .u64 0, .string (⟨#[]⟩ : ByteArray), .string (⟨#[]⟩ : ByteArray)] 29 (0, 0)) (by (with_reducible repeat (first | refine blk_drewN ?_ _ | refine blk_drew ?_ | refine blk_alloc ?_ _)); exact BK172.out) hb)
                          have n2_ := Aside0.mk (below_step (by repeat (first | (with_reducible first | exact HB.out | apply below_alloc | apply pw_below_drewN | apply below_drew1 | refine below_set ?_ GE149.out | refine below_set ?_ GE172.out) | exact HB.out)) hb)
                          have n3_ := Aside0.mk (hbox)
                          have n4_ := Aside0.mk ((by rw [hg]; exact (below_size (by repeat (first | (with_reducible first | exact HB.out | apply below_alloc | apply pw_below_drewN | apply below_drew1 | refine below_set ?_ GE149.out | refine below_set ?_ GE172.out) | exact HB.out))) : w.heap.size ≤ gb173))
                          have n5_ := Aside0.mk ((by rw [hg]; exact (below_size (by repeat (first | (with_reducible first | exact HB.out | apply below_alloc | apply pw_below_drewN | apply below_drew1 | refine below_set ?_ GE149.out | refine below_set ?_ GE172.out) | exact HB.out))) : w.heap.size ≤ gb173))
                          have n6_ := Aside0.mk ((by rw [hg]; exact Nat.ne_of_lt (blk_lt (g := gb149) (o := .cells #[.int .u64 a0_0, .int .u64 a0_1, .int .u64 a0_2, .string a0_3, .string a0_4] 29 (0, 0)) (by (with_reducible repeat (first | refine blk_drewN ?_ _ | refine blk_drew ?_ | refine blk_alloc ?_ _)); exact BK149.out)) : gb149 ≠ gb173))
                          have n7_ := Aside0.mk ((by rw [hg]; exact Nat.ne_of_gt (blk_lt (g := gb149) (o := .cells #[.int .u64 a0_0, .int .u64 a0_1, .int .u64 a0_2, .string a0_3, .string a0_4] 29 (0, 0)) (by (with_reducible repeat (first | refine blk_drewN ?_ _ | refine blk_drew ?_ | refine blk_alloc ?_ _)); exact BK149.out)) : gb173 ≠ gb149))
                          have n8_ := Aside0.mk ((by rw [hg]; exact Nat.ne_of_lt (blk_lt (g := gb172) (o := .cells #[.int .u64 0, .int .u64 0, .int .u64 0, .string (⟨#[]⟩ : ByteArray), .string (⟨#[]⟩ : ByteArray)] 29 (0, 0)) (by (with_reducible repeat (first | refine blk_drewN ?_ _ | refine blk_drew ?_ | refine blk_alloc ?_ _)); exact BK172.out)) : gb172 ≠ gb173))
                          have n9_ := Aside0.mk ((by rw [hg]; exact Nat.ne_of_gt (blk_lt (g := gb172) (o := .cells #[.int .u64 0, .int .u64 0, .int .u64 0, .string (⟨#[]⟩ : ByteArray), .string (⟨#[]⟩ : ByteArray)] 29 (0, 0)) (by (with_reducible repeat (first | refine blk_drewN ?_ _ | refine blk_drew ?_ | refine blk_alloc ?_ _)); exact BK172.out)) : gb173 ≠ gb172))
                          clear BK149
                          clear BK172
                          clear HB
                          have BK149 := n0_
                          have BK172 := n1_
                          have HB := n2_
                          have BK173 := n3_
                          have GW173 := n4_
                          have GE173 := n5_
                          have NB149_173 := n6_
                          have NB173_149 := n7_
                          have NB172_173 := n8_
                          have NB173_172 := n9_
                          clear n0_ n1_ n2_ n3_ n4_ n5_ n6_ n7_ n8_ n9_
                          clear hb hbox hg
                          refine hK.out _ _ ⟨(blk_cell BK149.out 0).trans rfl, (blk_cell BK149.out 1).trans rfl, (blk_cell BK149.out 2).trans rfl, (blk_cell BK149.out 3).trans rfl, (blk_cell BK149.out 4).trans rfl⟩ (fun hHeld => ?_)
                          clear hK K
                          refine norm_ (a' := ?_) ?_ ?_
                          rotate_left
                          ·
                           show Act.put _ (some 10) _ = _
                           simp only [Act.put, List.setIfInBounds_toArray, List.set_cons_zero, List.set_cons_succ, i64_w, i32_w]
                           rfl
                          exact norm_ (by first | (simp only [putAll, Act.put, List.setIfInBounds_toArray, List.set_cons_zero, List.set_cons_succ]; done) | (simp only [putAll, Act.put, List.setIfInBounds_toArray, List.set_cons_zero, List.set_cons_succ]; rfl)) (hJ4_14_15 (gb172, gb173) _ ⟨hHeld, (by (with_reducible repeat (first | refine blk_drewN ?_ _ | refine blk_drew ?_ | refine blk_alloc ?_ _)); exact BK149.out), (by (with_reducible repeat (first | refine blk_drewN ?_ _ | refine blk_drew ?_ | refine blk_alloc ?_ _)); exact BK172.out), (by (with_reducible repeat (first | refine blk_drewN ?_ _ | refine blk_drew ?_ | refine blk_alloc ?_ _)); exact BK173.out), GW172.out, GE172.out, NB149_172.out, NB172_149.out, NB173_172.out, NB172_173.out, GW173.out, GE173.out, NB149_173.out, NB173_149.out, (by repeat (first | (with_reducible first | exact HB.out | apply below_alloc | apply pw_below_drewN | apply below_drew1 | refine below_set ?_ GE149.out | refine below_set ?_ GE172.out | refine below_set ?_ GE173.out) | exact HB.out))⟩)
                       ·
                        skip
                        rintro _ w40 ⟨hS_, h0_, h1_⟩
                        have n0_ : Aside0 (w40.heap[gb149]? = some (.cells #[.int .u64 a0_0, .int .u64 a0_1, .int .u64 a0_2, .string a0_3, .string a0_4] 29 (0, 0))) := ⟨h0_⟩
                        have n1_ : Aside0 (Below w.heap.size w w40) := ⟨h1_⟩
                        clear BK149
                        clear HB
                        clear h0_ h1_
                        have BK149 := n0_
                        have HB := n1_
                        clear n0_ n1_
                        have hHeld : w40.cell? ⟨gb149, 0, none⟩ = some (.int .u64 a0_0) ∧ w40.cell? ⟨gb149, 1, none⟩ = some (.int .u64 a0_1) ∧ w40.cell? ⟨gb149, 2, none⟩ = some (.int .u64 a0_2) ∧ w40.cell? ⟨gb149, 3, none⟩ = some (.string a0_3) ∧ w40.cell? ⟨gb149, 4, none⟩ = some (.string a0_4) := hS_
                        refine norm_ (a' := ?_) ?_ ?_
                        rotate_left
                        ·
                         simp only [putAll, Act.put, List.setIfInBounds_toArray, List.set_cons_zero, List.set_cons_succ]
                         rfl
                        refine three_ (i := 11) (j := 14) (k := 15) (Ni := some 48) (Nj := some 9) (Nk := some 10) #[true, true, true, true, true, true, true, true, true, true, true, true, false, false, false, false, false, false] #[true, true, true, true, true, true, true, true, true, true, true, false, false, false, true, false, false, false] #[true, true, true, true, true, true, true, true, true, true, true, false, false, false, false, true, false, false] rfl rfl rfl rfl rfl rfl (three_of HT_.out (by kernel_rfl)) (by decide) (by decide) (by decide) (fun K hK => ?_) (fun K hK => ?_) (fun K hK => ?_)
                        ·
                         skip
                         refine goes_ Tryd.func30 (by kernel_rfl) rfl #[.int .u64 a3] (by rfl) rfl rfl (by (try simp only [List.map_toArray, List.map_cons, List.map_nil]); first | done | rfl | (simp only [List.length_drop, List.length_take]; rfl)) ?_
                         with_reducible refine (spec_Decimal.calls kj13 a3 t166 _ A31.out).mono ?_
                         rintro e w41 ⟨rfl, hb⟩
                         refine ⟨_, rfl, ?_⟩
                         have n0_ := Aside0.mk (blk_below (by (with_reducible repeat (first | refine blk_drewN ?_ _ | refine blk_drew ?_ | refine blk_alloc ?_ _)); exact BK149.out) hb)
                         have n1_ := Aside0.mk (below_step (by repeat (first | (with_reducible first | exact HB.out | apply below_alloc | apply pw_below_drewN | apply below_drew1 | refine below_set ?_ GE149.out) | exact HB.out)) hb)
                         clear BK149
                         clear HB
                         have BK149 := n0_
                         have HB := n1_
                         clear n0_ n1_
                         (try clear hb)
                         (try clear hb2)
                         (try clear hk)
                         (try clear hi)
                         refine hK.out _ _ ⟨(blk_cell BK149.out 0).trans rfl, (blk_cell BK149.out 1).trans rfl, (blk_cell BK149.out 2).trans rfl, (blk_cell BK149.out 3).trans rfl, (blk_cell BK149.out 4).trans rfl⟩ (fun hHeld => ?_)
                         clear hK K
                         refine norm_ (a' := ?_) ?_ ?_
                         rotate_left
                         ·
                          show Act.put _ (some 48) _ = _
                          simp only [Act.put, List.setIfInBounds_toArray, List.set_cons_zero, List.set_cons_succ, i64_w, i32_w]
                          rfl
                         refine pure_ (i := 12) (N := some 49) (v := ?_) (a' := ?_) #[true, true, true, true, true, true, true, true, true, true, true, true, true, false, false, false, false, false] rfl rfl (any_of HT_.out (by kernel_rfl)) (fun _ _ _ h => h) (Or.inl ⟨by rfl, ?_⟩) ?_ ?_
                         rotate_left
                         ·
                          intro w'
                          go_simp
                          with_reducible rfl
                         rotate_left
                         ·
                          simp only [Act.put, List.setIfInBounds_toArray, List.set_cons_zero, List.set_cons_succ, i64_w, i32_w]
                          rfl
                         exact norm_ (by first | (simp only [putAll, Act.put, List.setIfInBounds_toArray, List.set_cons_zero, List.set_cons_succ]; done) | (simp only [putAll, Act.put, List.setIfInBounds_toArray, List.set_cons_zero, List.set_cons_succ]; rfl)) (hJ4_6_11 () _ ⟨hHeld, (by (with_reducible repeat (first | refine blk_drewN ?_ _ | refine blk_drew ?_ | refine blk_alloc ?_ _)); exact BK149.out), (by repeat (first | (with_reducible first | exact HB.out | apply below_alloc | apply pw_below_drewN | apply below_drew1 | refine below_set ?_ GE149.out) | exact HB.out))⟩)
                        ·
                         skip
                         refine box_step ?hg (N := 9) ?hd (cs := #[.int .u64 0, .int .u64 0, .int .u64 0, .string (⟨#[]⟩ : ByteArray), .string (⟨#[]⟩ : ByteArray)]) (t := 29) ?hr ?_; (case hd => rfl); (case hg => rfl); (case hr => first | (go_simp; done) | (go_simp; rfl))
                         intro gb172 hg w41 hbox hb
                         have n0_ := Aside0.mk (blk_below (by (with_reducible repeat (first | refine blk_drewN ?_ _ | refine blk_drew ?_ | refine blk_alloc ?_ _)); exact BK149.out) hb)
                         have n1_ := Aside0.mk (below_step (by repeat (first | (with_reducible first | exact HB.out | apply below_alloc | apply pw_below_drewN | apply below_drew1 | refine below_set ?_ GE149.out) | exact HB.out)) hb)
                         have n2_ := Aside0.mk (hbox)
                         have n3_ := Aside0.mk ((by rw [hg]; exact (below_size (by repeat (first | (with_reducible first | exact HB.out | apply below_alloc | apply pw_below_drewN | apply below_drew1 | refine below_set ?_ GE149.out) | exact HB.out))) : w.heap.size ≤ gb172))
                         have n4_ := Aside0.mk ((by rw [hg]; exact (below_size (by repeat (first | (with_reducible first | exact HB.out | apply below_alloc | apply pw_below_drewN | apply below_drew1 | refine below_set ?_ GE149.out) | exact HB.out))) : w.heap.size ≤ gb172))
                         have n5_ := Aside0.mk ((by rw [hg]; exact Nat.ne_of_lt (blk_lt (g := gb149) (o := .cells #[.int .u64 a0_0, .int .u64 a0_1, .int .u64 a0_2, .string a0_3, .string a0_4] 29 (0, 0)) (by (with_reducible repeat (first | refine blk_drewN ?_ _ | refine blk_drew ?_ | refine blk_alloc ?_ _)); exact BK149.out)) : gb149 ≠ gb172))
                         have n6_ := Aside0.mk ((by rw [hg]; exact Nat.ne_of_gt (blk_lt (g := gb149) (o := .cells #[.int .u64 a0_0, .int .u64 a0_1, .int .u64 a0_2, .string a0_3, .string a0_4] 29 (0, 0)) (by (with_reducible repeat (first | refine blk_drewN ?_ _ | refine blk_drew ?_ | refine blk_alloc ?_ _)); exact BK149.out)) : gb172 ≠ gb149))
                         clear BK149
                         clear HB
                         have BK149 := n0_
                         have HB := n1_
                         have BK172 := n2_
                         have GW172 := n3_
                         have GE172 := n4_
                         have NB149_172 := n5_
                         have NB172_149 := n6_
                         clear n0_ n1_ n2_ n3_ n4_ n5_ n6_
                         clear hb hbox hg
                         refine hK.out _ _ ⟨(blk_cell BK149.out 0).trans rfl, (blk_cell BK149.out 1).trans rfl, (blk_cell BK149.out 2).trans rfl, (blk_cell BK149.out 3).trans rfl, (blk_cell BK149.out 4).trans rfl⟩ (fun hHeld => ?_)
                         clear hK K
                         refine norm_ (a' := ?_) ?_ ?_
                         rotate_left
                         ·
                          show Act.put _ (some 9) _ = _
                          simp only [Act.put, List.setIfInBounds_toArray, List.set_cons_zero, List.set_cons_succ, i64_w, i32_w]
                          rfl
                         exact norm_ (by first | (simp only [putAll, Act.put, List.setIfInBounds_toArray, List.set_cons_zero, List.set_cons_succ]; done) | (simp only [putAll, Act.put, List.setIfInBounds_toArray, List.set_cons_zero, List.set_cons_succ]; rfl)) (hJ4_6_14 (gb172) _ ⟨hHeld, (by (with_reducible repeat (first | refine blk_drewN ?_ _ | refine blk_drew ?_ | refine blk_alloc ?_ _)); exact BK149.out), (by (with_reducible repeat (first | refine blk_drewN ?_ _ | refine blk_drew ?_ | refine blk_alloc ?_ _)); exact BK172.out), GW172.out, GE172.out, NB149_172.out, NB172_149.out, (by repeat (first | (with_reducible first | exact HB.out | apply below_alloc | apply pw_below_drewN | apply below_drew1 | refine below_set ?_ GE149.out | refine below_set ?_ GE172.out) | exact HB.out))⟩)
                        ·
                         skip
                         refine box_step ?hg (N := 10) ?hd (cs := #[.int .u64 0, .int .u64 0, .int .u64 0, .string (⟨#[]⟩ : ByteArray), .string (⟨#[]⟩ : ByteArray)]) (t := 29) ?hr ?_; (case hd => rfl); (case hg => rfl); (case hr => first | (go_simp; done) | (go_simp; rfl))
                         intro gb173 hg w41 hbox hb
                         have n0_ := Aside0.mk (blk_below (by (with_reducible repeat (first | refine blk_drewN ?_ _ | refine blk_drew ?_ | refine blk_alloc ?_ _)); exact BK149.out) hb)
                         have n1_ := Aside0.mk (below_step (by repeat (first | (with_reducible first | exact HB.out | apply below_alloc | apply pw_below_drewN | apply below_drew1 | refine below_set ?_ GE149.out) | exact HB.out)) hb)
                         have n2_ := Aside0.mk (hbox)
                         have n3_ := Aside0.mk ((by rw [hg]; exact (below_size (by repeat (first | (with_reducible first | exact HB.out | apply below_alloc | apply pw_below_drewN | apply below_drew1 | refine below_set ?_ GE149.out) | exact HB.out))) : w.heap.size ≤ gb173))
                         have n4_ := Aside0.mk ((by rw [hg]; exact (below_size (by repeat (first | (with_reducible first | exact HB.out | apply below_alloc | apply pw_below_drewN | apply below_drew1 | refine below_set ?_ GE149.out) | exact HB.out))) : w.heap.size ≤ gb173))
                         have n5_ := Aside0.mk ((by rw [hg]; exact Nat.ne_of_lt (blk_lt (g := gb149) (o := .cells #[.int .u64 a0_0, .int .u64 a0_1, .int .u64 a0_2, .string a0_3, .string a0_4] 29 (0, 0)) (by (with_reducible repeat (first | refine blk_drewN ?_ _ | refine blk_drew ?_ | refine blk_alloc ?_ _)); exact BK149.out)) : gb149 ≠ gb173))
                         have n6_ := Aside0.mk ((by rw [hg]; exact Nat.ne_of_gt (blk_lt (g := gb149) (o := .cells #[.int .u64 a0_0, .int .u64 a0_1, .int .u64 a0_2, .string a0_3, .string a0_4] 29 (0, 0)) (by (with_reducible repeat (first | refine blk_drewN ?_ _ | refine blk_drew ?_ | refine blk_alloc ?_ _)); exact BK149.out)) : gb173 ≠ gb149))
                         clear BK149
                         clear HB
                         have BK149 := n0_
                         have HB := n1_
                         have BK173 := n2_
                         have GW173 := n3_
                         have GE173 := n4_
                         have NB149_173 := n5_
                         have NB173_149 := n6_
                         clear n0_ n1_ n2_ n3_ n4_ n5_ n6_
                         clear hb hbox hg
                         refine hK.out _ _ ⟨(blk_cell BK149.out 0).trans rfl, (blk_cell BK149.out 1).trans rfl, (blk_cell BK149.out 2).trans rfl, (blk_cell BK149.out 3).trans rfl, (blk_cell BK149.out 4).trans rfl⟩ (fun hHeld => ?_)
                         clear hK K
                         refine norm_ (a' := ?_) ?_ ?_
                         rotate_left
                         ·
                          show Act.put _ (some 10) _ = _
                          simp only [Act.put, List.setIfInBounds_toArray, List.set_cons_zero, List.set_cons_succ, i64_w, i32_w]
                          rfl
                         exact norm_ (by first | (simp only [putAll, Act.put, List.setIfInBounds_toArray, List.set_cons_zero, List.set_cons_succ]; done) | (simp only [putAll, Act.put, List.setIfInBounds_toArray, List.set_cons_zero, List.set_cons_succ]; rfl)) (hJ4_6_15 (gb173) _ ⟨hHeld, (by (with_reducible repeat (first | refine blk_drewN ?_ _ | refine blk_drew ?_ | refine blk_alloc ?_ _)); exact BK149.out), (by (with_reducible repeat (first | refine blk_drewN ?_ _ | refine blk_drew ?_ | refine blk_alloc ?_ _)); exact BK173.out), GW173.out, GE173.out, NB149_173.out, NB173_149.out, (by repeat (first | (with_reducible first | exact HB.out | apply below_alloc | apply pw_below_drewN | apply below_drew1 | refine below_set ?_ GE149.out | refine below_set ?_ GE173.out) | exact HB.out))⟩)
                      ·
                       skip
                       rintro ⟨gb172, gb173⟩ w41 ⟨hS_, h0_, h1_, h2_, h3_, h4_, h5_, h6_, h7_, h8_, h9_, h10_, h11_, h12_, h13_⟩
                       have n0_ : Aside0 (w41.heap[gb149]? = some (.cells #[.int .u64 a0_0, .int .u64 a0_1, .int .u64 a0_2, .string a0_3, .string a0_4] 29 (0, 0))) := ⟨h0_⟩
                       have n1_ : Aside0 (w41.heap[gb172]? = some (.cells #[.int .u64 0, .int .u64 0, .int .u64 0, .string (⟨#[]⟩ : ByteArray), .string (⟨#[]⟩ : ByteArray)] 29 (0, 0))) := ⟨h1_⟩
                       have n2_ : Aside0 (w41.heap[gb173]? = some (.cells #[.int .u64 0, .int .u64 0, .int .u64 0, .string (⟨#[]⟩ : ByteArray), .string (⟨#[]⟩ : ByteArray)] 29 (0, 0))) := ⟨h2_⟩
                       have n3_ : Aside0 (w.heap.size ≤ gb172) := ⟨h3_⟩
                       have n4_ : Aside0 (w.heap.size ≤ gb172) := ⟨h4_⟩
                       have n5_ : Aside0 (gb149 ≠ gb172) := ⟨h5_⟩
                       have n6_ : Aside0 (gb172 ≠ gb149) := ⟨h6_⟩
                       have n7_ : Aside0 (gb173 ≠ gb172) := ⟨h7_⟩
                       have n8_ : Aside0 (gb172 ≠ gb173) := ⟨h8_⟩
                       have n9_ : Aside0 (w.heap.size ≤ gb173) := ⟨h9_⟩
                       have n10_ : Aside0 (w.heap.size ≤ gb173) := ⟨h10_⟩
                       have n11_ : Aside0 (gb149 ≠ gb173) := ⟨h11_⟩
                       have n12_ : Aside0 (gb173 ≠ gb149) := ⟨h12_⟩
                       have n13_ : Aside0 (Below w.heap.size w w41) := ⟨h13_⟩
                       clear BK149
                       clear HB
                       clear h0_ h1_ h2_ h3_ h4_ h5_ h6_ h7_ h8_ h9_ h10_ h11_ h12_ h13_
                       have BK149 := n0_
                       have BK172 := n1_
                       have BK173 := n2_
                       have GW172 := n3_
                       have GE172 := n4_
                       have NB149_172 := n5_
                       have NB172_149 := n6_
                       have NB173_172 := n7_
                       have NB172_173 := n8_
                       have GW173 := n9_
                       have GE173 := n10_
                       have NB149_173 := n11_
                       have NB173_149 := n12_
                       have HB := n13_
                       clear n0_ n1_ n2_ n3_ n4_ n5_ n6_ n7_ n8_ n9_ n10_ n11_ n12_ n13_
                       have hHeld : w41.cell? ⟨gb149, 0, none⟩ = some (.int .u64 a0_0) ∧ w41.cell? ⟨gb149, 1, none⟩ = some (.int .u64 a0_1) ∧ w41.cell? ⟨gb149, 2, none⟩ = some (.int .u64 a0_2) ∧ w41.cell? ⟨gb149, 3, none⟩ = some (.string a0_3) ∧ w41.cell? ⟨gb149, 4, none⟩ = some (.string a0_4) := hS_
                       refine norm_ (a' := ?_) ?_ ?_
                       rotate_left
                       ·
                        simp only [putAll, Act.put, List.setIfInBounds_toArray, List.set_cons_zero, List.set_cons_succ]
                        rfl
                       refine one_ (i := 6) (N := some 43) #[true, true, true, true, true, true, true, true, true, true, true, false, false, false, true, true, false, false] rfl rfl (one_of HT_.out (by kernel_rfl)) (by decide) (fun K hK => ?_)
                       refine goes_ Tryd.func29 (by kernel_rfl) rfl #[.agg #[.int .u64 a0_0, .int .u64 a0_1, .int .u64 a0_2, .string a0_3, .string a0_4], .string ((a1 ++ (⟨#[46]⟩ : ByteArray)) ++ t160)] (by rfl) rfl rfl (by (try simp only [List.map_toArray, List.map_cons, List.map_nil]); first | done | rfl | (simp only [List.length_drop, List.length_take]; rfl)) ?_
                       with_reducible refine (laws_svPre.calls a0_0 a0_1 a0_2 a0_3 a0_4 ((a1 ++ (⟨#[46]⟩ : ByteArray)) ++ t160) t161 t162 t163 t164 t165 _ A30.out).mono ?_
                       rintro e w42 ⟨rfl, hb⟩
                       refine ⟨_, rfl, ?_⟩
                       have n0_ := Aside0.mk (blk_below (by (with_reducible repeat (first | refine blk_drewN ?_ _ | refine blk_drew ?_ | refine blk_alloc ?_ _)); exact BK149.out) hb)
                       have n1_ := Aside0.mk (blk_below (g := gb172) (o := .cells #[.int .u64 0, .int .u64 0, .int .u64 0, .string (⟨#[]⟩ : ByteArray), .string (⟨#[]⟩ : ByteArray)] 29 (0, 0)) (by (with_reducible repeat (first | refine blk_drewN ?_ _ | refine blk_drew ?_ | refine blk_alloc ?_ _)); exact BK172.out) hb)
                       have n2_ := Aside0.mk (blk_below (g := gb173) (o := .cells #[.int .u64 0, .int .u64 0, .int .u64 0, .string (⟨#[]⟩ : ByteArray), .string (⟨#[]⟩ : ByteArray)] 29 (0, 0)) (by (with_reducible repeat (first | refine blk_drewN ?_ _ | refine blk_drew ?_ | refine blk_alloc ?_ _)); exact BK173.out) hb)
                       have n3_ := Aside0.mk (below_step (by repeat (first | (with_reducible first | exact HB.out | apply below_alloc | apply pw_below_drewN | apply below_drew1 | refine below_set ?_ GE149.out | refine below_set ?_ GE172.out | refine below_set ?_ GE173.out) | exact HB.out)) hb)
                       clear BK149
                       clear BK172
                       clear BK173
                       clear HB
                       have BK149 := n0_
                       have BK172 := n1_
                       have BK173 := n2_
                       have HB := n3_
                       clear n0_ n1_ n2_ n3_
                       (try clear hb)
                       (try clear hb2)
                       (try clear hk)
                       (try clear hi)
                       refine hK.out _ _ ⟨(blk_cell BK149.out 0).trans rfl, (blk_cell BK149.out 1).trans rfl, (blk_cell BK149.out 2).trans rfl, (blk_cell BK149.out 3).trans rfl, (blk_cell BK149.out 4).trans rfl⟩ (fun hHeld => ?_)
                       clear hK K
                       refine norm_ (a' := ?_) ?_ ?_
                       rotate_left
                       ·
                        show Act.put _ (some 43) _ = _
                        simp only [Act.put, List.setIfInBounds_toArray, List.set_cons_zero, List.set_cons_succ, i64_w, i32_w]
                        rfl
                       exact norm_ (by first | (simp only [putAll, Act.put, List.setIfInBounds_toArray, List.set_cons_zero, List.set_cons_succ]; done) | (simp only [putAll, Act.put, List.setIfInBounds_toArray, List.set_cons_zero, List.set_cons_succ]; rfl)) (hJ4_6_14_15 (gb172, gb173) _ ⟨hHeld, (by (with_reducible repeat (first | refine blk_drewN ?_ _ | refine blk_drew ?_ | refine blk_alloc ?_ _)); exact BK149.out), (by (with_reducible repeat (first | refine blk_drewN ?_ _ | refine blk_drew ?_ | refine blk_alloc ?_ _)); exact BK172.out), (by (with_reducible repeat (first | refine blk_drewN ?_ _ | refine blk_drew ?_ | refine blk_alloc ?_ _)); exact BK173.out), GW172.out, GE172.out, NB149_172.out, NB172_149.out, NB173_172.out, NB172_173.out, GW173.out, GE173.out, NB149_173.out, NB173_149.out, (by repeat (first | (with_reducible first | exact HB.out | apply below_alloc | apply pw_below_drewN | apply below_drew1 | refine below_set ?_ GE149.out | refine below_set ?_ GE172.out | refine below_set ?_ GE173.out) | exact HB.out))⟩)
                     ·
                      skip
                      rintro gb173 w41 ⟨hS_, h0_, h1_, h2_, h3_, h4_, h5_, h6_⟩
                      have n0_ : Aside0 (w41.heap[gb149]? = some (.cells #[.int .u64 a0_0, .int .u64 a0_1, .int .u64 a0_2, .string a0_3, .string a0_4] 29 (0, 0))) := ⟨h0_⟩
                      have n1_ : Aside0 (w41.heap[gb173]? = some (.cells #[.int .u64 0, .int .u64 0, .int .u64 0, .string (⟨#[]⟩ : ByteArray), .string (⟨#[]⟩ : ByteArray)] 29 (0, 0))) := ⟨h1_⟩
                      have n2_ : Aside0 (w.heap.size ≤ gb173) := ⟨h2_⟩
                      have n3_ : Aside0 (w.heap.size ≤ gb173) := ⟨h3_⟩
                      have n4_ : Aside0 (gb149 ≠ gb173) := ⟨h4_⟩
                      have n5_ : Aside0 (gb173 ≠ gb149) := ⟨h5_⟩
                      have n6_ : Aside0 (Below w.heap.size w w41) := ⟨h6_⟩
                      clear BK149
                      clear HB
                      clear h0_ h1_ h2_ h3_ h4_ h5_ h6_
                      have BK149 := n0_
                      have BK173 := n1_
                      have GW173 := n2_
                      have GE173 := n3_
                      have NB149_173 := n4_
                      have NB173_149 := n5_
                      have HB := n6_
                      clear n0_ n1_ n2_ n3_ n4_ n5_ n6_
                      have hHeld : w41.cell? ⟨gb149, 0, none⟩ = some (.int .u64 a0_0) ∧ w41.cell? ⟨gb149, 1, none⟩ = some (.int .u64 a0_1) ∧ w41.cell? ⟨gb149, 2, none⟩ = some (.int .u64 a0_2) ∧ w41.cell? ⟨gb149, 3, none⟩ = some (.string a0_3) ∧ w41.cell? ⟨gb149, 4, none⟩ = some (.string a0_4) := hS_
                      refine norm_ (a' := ?_) ?_ ?_
                      rotate_left
                      ·
                       simp only [putAll, Act.put, List.setIfInBounds_toArray, List.set_cons_zero, List.set_cons_succ]
                       rfl
                      refine two_ (i := 11) (j := 14) (Ni := some 48) (Nj := some 9) #[true, true, true, true, true, true, true, true, true, true, true, true, false, false, false, true, false, false] #[true, true, true, true, true, true, true, true, true, true, true, false, false, false, true, true, false, false] rfl rfl rfl rfl (two_of HT_.out (by kernel_rfl)) (by decide) (by decide) (fun K hK => ?_) (fun K hK => ?_)
                      ·
                       skip
                       refine goes_ Tryd.func30 (by kernel_rfl) rfl #[.int .u64 a3] (by rfl) rfl rfl (by (try simp only [List.map_toArray, List.map_cons, List.map_nil]); first | done | rfl | (simp only [List.length_drop, List.length_take]; rfl)) ?_
                       with_reducible refine (spec_Decimal.calls kj13 a3 t166 _ A31.out).mono ?_
                       rintro e w42 ⟨rfl, hb⟩
                       refine ⟨_, rfl, ?_⟩
                       have n0_ := Aside0.mk (blk_below (by (with_reducible repeat (first | refine blk_drewN ?_ _ | refine blk_drew ?_ | refine blk_alloc ?_ _)); exact BK149.out) hb)
                       have n1_ := Aside0.mk (blk_below (g := gb173) (o := .cells #[.int .u64 0, .int .u64 0, .int .u64 0, .string (⟨#[]⟩ : ByteArray), .string (⟨#[]⟩ : ByteArray)] 29 (0, 0)) (by (with_reducible repeat (first | refine blk_drewN ?_ _ | refine blk_drew ?_ | refine blk_alloc ?_ _)); exact BK173.out) hb)
                       have n2_ := Aside0.mk (below_step (by repeat (first | (with_reducible first | exact HB.out | apply below_alloc | apply pw_below_drewN | apply below_drew1 | refine below_set ?_ GE149.out | refine below_set ?_ GE173.out) | exact HB.out)) hb)
                       clear BK149
                       clear BK173
                       clear HB
                       have BK149 := n0_
                       have BK173 := n1_
                       have HB := n2_
                       clear n0_ n1_ n2_
                       (try clear hb)
                       (try clear hb2)
                       (try clear hk)
                       (try clear hi)
                       refine hK.out _ _ ⟨(blk_cell BK149.out 0).trans rfl, (blk_cell BK149.out 1).trans rfl, (blk_cell BK149.out 2).trans rfl, (blk_cell BK149.out 3).trans rfl, (blk_cell BK149.out 4).trans rfl⟩ (fun hHeld => ?_)
                       clear hK K
                       refine norm_ (a' := ?_) ?_ ?_
                       rotate_left
                       ·
                        show Act.put _ (some 48) _ = _
                        simp only [Act.put, List.setIfInBounds_toArray, List.set_cons_zero, List.set_cons_succ, i64_w, i32_w]
                        rfl
                       refine pure_ (i := 12) (N := some 49) (v := ?_) (a' := ?_) #[true, true, true, true, true, true, true, true, true, true, true, true, true, false, false, true, false, false] rfl rfl (any_of HT_.out (by kernel_rfl)) (fun _ _ _ h => h) (Or.inl ⟨by rfl, ?_⟩) ?_ ?_
                       rotate_left
                       ·
                        intro w'
                        go_simp
                        with_reducible rfl
                       rotate_left
                       ·
                        simp only [Act.put, List.setIfInBounds_toArray, List.set_cons_zero, List.set_cons_succ, i64_w, i32_w]
                        rfl
                       exact norm_ (by first | (simp only [putAll, Act.put, List.setIfInBounds_toArray, List.set_cons_zero, List.set_cons_succ]; done) | (simp only [putAll, Act.put, List.setIfInBounds_toArray, List.set_cons_zero, List.set_cons_succ]; rfl)) (hJ4_6_11_15 (gb173) _ ⟨hHeld, (by (with_reducible repeat (first | refine blk_drewN ?_ _ | refine blk_drew ?_ | refine blk_alloc ?_ _)); exact BK149.out), (by (with_reducible repeat (first | refine blk_drewN ?_ _ | refine blk_drew ?_ | refine blk_alloc ?_ _)); exact BK173.out), GW173.out, GE173.out, NB149_173.out, NB173_149.out, (by repeat (first | (with_reducible first | exact HB.out | apply below_alloc | apply pw_below_drewN | apply below_drew1 | refine below_set ?_ GE149.out | refine below_set ?_ GE173.out) | exact HB.out))⟩)
                      ·
                       skip
                       refine box_step ?hg (N := 9) ?hd (cs := #[.int .u64 0, .int .u64 0, .int .u64 0, .string (⟨#[]⟩ : ByteArray), .string (⟨#[]⟩ : ByteArray)]) (t := 29) ?hr ?_; (case hd => rfl); (case hg => rfl); (case hr => first | (go_simp; done) | (go_simp; rfl))
                       intro gb172 hg w42 hbox hb
                       have n0_ := Aside0.mk (blk_below (by (with_reducible repeat (first | refine blk_drewN ?_ _ | refine blk_drew ?_ | refine blk_alloc ?_ _)); exact BK149.out) hb)
                       have n1_ := Aside0.mk (blk_below (g := gb173) (o := .cells #[.int .u64 0, .int .u64 0, .int .u64 0, .string (⟨#[]⟩ : ByteArray), .string (⟨#[]⟩ : ByteArray)] 29 (0, 0)) (by (with_reducible repeat (first | refine blk_drewN ?_ _ | refine blk_drew ?_ | refine blk_alloc ?_ _)); exact BK173.out) hb)
                       have n2_ := Aside0.mk (below_step (by repeat (first | (with_reducible first | exact HB.out | apply below_alloc | apply pw_below_drewN | apply below_drew1 | refine below_set ?_ GE149.out | refine below_set ?_ GE173.out) | exact HB.out)) hb)
                       have n3_ := Aside0.mk (hbox)
                       have n4_ := Aside0.mk ((by rw [hg]; exact (below_size (by repeat (first | (with_reducible first | exact HB.out | apply below_alloc | apply pw_below_drewN | apply below_drew1 | refine below_set ?_ GE149.out | refine below_set ?_ GE173.out) | exact HB.out))) : w.heap.size ≤ gb172))
                       have n5_ := Aside0.mk ((by rw [hg]; exact (below_size (by repeat (first | (with_reducible first | exact HB.out | apply below_alloc | apply pw_below_drewN | apply below_drew1 | refine below_set ?_ GE149.out | refine below_set ?_ GE173.out) | exact HB.out))) : w.heap.size ≤ gb172))
                       have n6_ := Aside0.mk ((by rw [hg]; exact Nat.ne_of_lt (blk_lt (g := gb149) (o := .cells #[.int .u64 a0_0, .int .u64 a0_1, .int .u64 a0_2, .string a0_3, .string a0_4] 29 (0, 0)) (by (with_reducible repeat (first | refine blk_drewN ?_ _ | refine blk_drew ?_ | refine blk_alloc ?_ _)); exact BK149.out)) : gb149 ≠ gb172))
                       have n7_ := Aside0.mk ((by rw [hg]; exact Nat.ne_of_gt (blk_lt (g := gb149) (o := .cells #[.int .u64 a0_0, .int .u64 a0_1, .int .u64 a0_2, .string a0_3, .string a0_4] 29 (0, 0)) (by (with_reducible repeat (first | refine blk_drewN ?_ _ | refine blk_drew ?_ | refine blk_alloc ?_ _)); exact BK149.out)) : gb172 ≠ gb149))
                       have n8_ := Aside0.mk ((by rw [hg]; exact Nat.ne_of_lt (blk_lt (g := gb173) (o := .cells #[.int .u64 0, .int .u64 0, .int .u64 0, .string (⟨#[]⟩ : ByteArray), .string (⟨#[]⟩ : ByteArray)] 29 (0, 0)) (by (with_reducible repeat (first | refine blk_drewN ?_ _ | refine blk_drew ?_ | refine blk_alloc ?_ _)); exact BK173.out)) : gb173 ≠ gb172))
                       have n9_ := Aside0.mk ((by rw [hg]; exact Nat.ne_of_gt (blk_lt (g := gb173) (o := .cells #[.int .u64 0, .int .u64 0, .int .u64 0, .string (⟨#[]⟩ : ByteArray), .string (⟨#[]⟩ : ByteArray)] 29 (0, 0)) (by (with_reducible repeat (first | refine blk_drewN ?_ _ | refine blk_drew ?_ | refine blk_alloc ?_ _)); exact BK173.out)) : gb172 ≠ gb173))
                       clear BK149
                       clear BK173
                       clear HB
                       have BK149 := n0_
                       have BK173 := n1_
                       have HB := n2_
                       have BK172 := n3_
                       have GW172 := n4_
                       have GE172 := n5_
                       have NB149_172 := n6_
                       have NB172_149 := n7_
                       have NB173_172 := n8_
                       have NB172_173 := n9_
                       clear n0_ n1_ n2_ n3_ n4_ n5_ n6_ n7_ n8_ n9_
                       clear hb hbox hg
                       refine hK.out _ _ ⟨(blk_cell BK149.out 0).trans rfl, (blk_cell BK149.out 1).trans rfl, (blk_cell BK149.out 2).trans rfl, (blk_cell BK149.out 3).trans rfl, (blk_cell BK149.out 4).trans rfl⟩ (fun hHeld => ?_)
                       clear hK K
                       refine norm_ (a' := ?_) ?_ ?_
                       rotate_left
                       ·
                        show Act.put _ (some 9) _ = _
                        simp only [Act.put, List.setIfInBounds_toArray, List.set_cons_zero, List.set_cons_succ, i64_w, i32_w]
                        rfl
                       exact norm_ (by first | (simp only [putAll, Act.put, List.setIfInBounds_toArray, List.set_cons_zero, List.set_cons_succ]; done) | (simp only [putAll, Act.put, List.setIfInBounds_toArray, List.set_cons_zero, List.set_cons_succ]; rfl)) (hJ4_6_14_15 (gb172, gb173) _ ⟨hHeld, (by (with_reducible repeat (first | refine blk_drewN ?_ _ | refine blk_drew ?_ | refine blk_alloc ?_ _)); exact BK149.out), (by (with_reducible repeat (first | refine blk_drewN ?_ _ | refine blk_drew ?_ | refine blk_alloc ?_ _)); exact BK172.out), (by (with_reducible repeat (first | refine blk_drewN ?_ _ | refine blk_drew ?_ | refine blk_alloc ?_ _)); exact BK173.out), GW172.out, GE172.out, NB149_172.out, NB172_149.out, NB173_172.out, NB172_173.out, GW173.out, GE173.out, NB149_173.out, NB173_149.out, (by repeat (first | (with_reducible first | exact HB.out | apply below_alloc | apply pw_below_drewN | apply below_drew1 | refine below_set ?_ GE149.out | refine below_set ?_ GE173.out | refine below_set ?_ GE172.out) | exact HB.out))⟩)
                    ·
                     skip
                     rintro gb172 w41 ⟨hS_, h0_, h1_, h2_, h3_, h4_, h5_, h6_⟩
                     have n0_ : Aside0 (w41.heap[gb149]? = some (.cells #[.int .u64 a0_0, .int .u64 a0_1, .int .u64 a0_2, .string a0_3, .string a0_4] 29 (0, 0))) := ⟨h0_⟩
                     have n1_ : Aside0 (w41.heap[gb172]? = some (.cells #[.int .u64 0, .int .u64 0, .int .u64 0, .string (⟨#[]⟩ : ByteArray), .string (⟨#[]⟩ : ByteArray)] 29 (0, 0))) := ⟨h1_⟩
                     have n2_ : Aside0 (w.heap.size ≤ gb172) := ⟨h2_⟩
                     have n3_ : Aside0 (w.heap.size ≤ gb172) := ⟨h3_⟩
                     have n4_ : Aside0 (gb149 ≠ gb172) := ⟨h4_⟩
                     have n5_ : Aside0 (gb172 ≠ gb149) := ⟨h5_⟩
                     have n6_ : Aside0 (Below w.heap.size w w41) := ⟨h6_⟩
                     clear BK149
                     clear HB
                     clear h0_ h1_ h2_ h3_ h4_ h5_ h6_
                     have BK149 := n0_
                     have BK172 := n1_
                     have GW172 := n2_
                     have GE172 := n3_
                     have NB149_172 := n4_
                     have NB172_149 := n5_
                     have HB := n6_
                     clear n0_ n1_ n2_ n3_ n4_ n5_ n6_
                     have hHeld : w41.cell? ⟨gb149, 0, none⟩ = some (.int .u64 a0_0) ∧ w41.cell? ⟨gb149, 1, none⟩ = some (.int .u64 a0_1) ∧ w41.cell? ⟨gb149, 2, none⟩ = some (.int .u64 a0_2) ∧ w41.cell? ⟨gb149, 3, none⟩ = some (.string a0_3) ∧ w41.cell? ⟨gb149, 4, none⟩ = some (.string a0_4) := hS_
                     refine norm_ (a' := ?_) ?_ ?_
                     rotate_left
                     ·
                      simp only [putAll, Act.put, List.setIfInBounds_toArray, List.set_cons_zero, List.set_cons_succ]
                      rfl
                     refine two_ (i := 11) (j := 15) (Ni := some 48) (Nj := some 10) #[true, true, true, true, true, true, true, true, true, true, true, true, false, false, true, false, false, false] #[true, true, true, true, true, true, true, true, true, true, true, false, false, false, true, true, false, false] rfl rfl rfl rfl (two_of HT_.out (by kernel_rfl)) (by decide) (by decide) (fun K hK => ?_) (fun K hK => ?_)
                     ·
                      skip
                      refine goes_ Tryd.func30 (by kernel_rfl) rfl #[.int .u64 a3] (by rfl) rfl rfl (by (try simp only [List.map_toArray, List.map_cons, List.map_nil]); first | done | rfl | (simp only [List.length_drop, List.length_take]; rfl)) ?_
                      with_reducible refine (spec_Decimal.calls kj13 a3 t166 _ A31.out).mono ?_
                      rintro e w42 ⟨rfl, hb⟩
                      refine ⟨_, rfl, ?_⟩
                      have n0_ := Aside0.mk (blk_below (by (with_reducible repeat (first | refine blk_drewN ?_ _ | refine blk_drew ?_ | refine blk_alloc ?_ _)); exact BK149.out) hb)
                      have n1_ := Aside0.mk (blk_below (g := gb172) (o := .cells #[.int .u64 0, .int .u64 0, .int .u64 0, .string (⟨#[]⟩ : ByteArray), .string (⟨#[]⟩ : ByteArray)] 29 (0, 0)) (by (with_reducible repeat (first | refine blk_drewN ?_ _ | refine blk_drew ?_ | refine blk_alloc ?_ _)); exact BK172.out) hb)
                      have n2_ := Aside0.mk (below_step (by repeat (first | (with_reducible first | exact HB.out | apply below_alloc | apply pw_below_drewN | apply below_drew1 | refine below_set ?_ GE149.out | refine below_set ?_ GE172.out) | exact HB.out)) hb)
                      clear BK149
                      clear BK172
                      clear HB
                      have BK149 := n0_
                      have BK172 := n1_
                      have HB := n2_
                      clear n0_ n1_ n2_
                      (try clear hb)
                      (try clear hb2)
                      (try clear hk)
                      (try clear hi)
                      refine hK.out _ _ ⟨(blk_cell BK149.out 0).trans rfl, (blk_cell BK149.out 1).trans rfl, (blk_cell BK149.out 2).trans rfl, (blk_cell BK149.out 3).trans rfl, (blk_cell BK149.out 4).trans rfl⟩ (fun hHeld => ?_)
                      clear hK K
                      refine norm_ (a' := ?_) ?_ ?_
                      rotate_left
                      ·
                       show Act.put _ (some 48) _ = _
                       simp only [Act.put, List.setIfInBounds_toArray, List.set_cons_zero, List.set_cons_succ, i64_w, i32_w]
                       rfl
                      refine pure_ (i := 12) (N := some 49) (v := ?_) (a' := ?_) #[true, true, true, true, true, true, true, true, true, true, true, true, true, false, true, false, false, false] rfl rfl (any_of HT_.out (by kernel_rfl)) (fun _ _ _ h => h) (Or.inl ⟨by rfl, ?_⟩) ?_ ?_
                      rotate_left
                      ·
                       intro w'
                       go_simp
                       with_reducible rfl
                      rotate_left
                      ·
                       simp only [Act.put, List.setIfInBounds_toArray, List.set_cons_zero, List.set_cons_succ, i64_w, i32_w]
                       rfl
                      exact norm_ (by first | (simp only [putAll, Act.put, List.setIfInBounds_toArray, List.set_cons_zero, List.set_cons_succ]; done) | (simp only [putAll, Act.put, List.setIfInBounds_toArray, List.set_cons_zero, List.set_cons_succ]; rfl)) (hJ4_6_11_14 (gb172) _ ⟨hHeld, (by (with_reducible repeat (first | refine blk_drewN ?_ _ | refine blk_drew ?_ | refine blk_alloc ?_ _)); exact BK149.out), (by (with_reducible repeat (first | refine blk_drewN ?_ _ | refine blk_drew ?_ | refine blk_alloc ?_ _)); exact BK172.out), GW172.out, GE172.out, NB149_172.out, NB172_149.out, (by repeat (first | (with_reducible first | exact HB.out | apply below_alloc | apply pw_below_drewN | apply below_drew1 | refine below_set ?_ GE149.out | refine below_set ?_ GE172.out) | exact HB.out))⟩)
                     ·
                      skip
                      refine box_step ?hg (N := 10) ?hd (cs := #[.int .u64 0, .int .u64 0, .int .u64 0, .string (⟨#[]⟩ : ByteArray), .string (⟨#[]⟩ : ByteArray)]) (t := 29) ?hr ?_; (case hd => rfl); (case hg => rfl); (case hr => first | (go_simp; done) | (go_simp; rfl))
                      intro gb173 hg w42 hbox hb
                      have n0_ := Aside0.mk (blk_below (by (with_reducible repeat (first | refine blk_drewN ?_ _ | refine blk_drew ?_ | refine blk_alloc ?_ _)); exact BK149.out) hb)
                      have n1_ := Aside0.mk (blk_below (g := gb172) (o := .cells #[.int .u64 0, .int .u64 0, .int .u64 0, .string (⟨#[]⟩ : ByteArray), .string (⟨#[]⟩ : ByteArray)] 29 (0, 0)) (by (with_reducible repeat (first | refine blk_drewN ?_ _ | refine blk_drew ?_ | refine blk_alloc ?_ _)); exact BK172.out) hb)
                      have n2_ := Aside0.mk (below_step (by repeat (first | (with_reducible first | exact HB.out | apply below_alloc | apply pw_below_drewN | apply below_drew1 | refine below_set ?_ GE149.out | refine below_set ?_ GE172.out) | exact HB.out)) hb)
                      have n3_ := Aside0.mk (hbox)
                      have n4_ := Aside0.mk ((by rw [hg]; exact (below_size (by repeat (first | (with_reducible first | exact HB.out | apply below_alloc | apply pw_below_drewN | apply below_drew1 | refine below_set ?_ GE149.out | refine below_set ?_ GE172.out) | exact HB.out))) : w.heap.size ≤ gb173))
                      have n5_ := Aside0.mk ((by rw [hg]; exact (below_size (by repeat (first | (with_reducible first | exact HB.out | apply below_alloc | apply pw_below_drewN | apply below_drew1 | refine below_set ?_ GE149.out | refine below_set ?_ GE172.out) | exact HB.out))) : w.heap.size ≤ gb173))
                      have n6_ := Aside0.mk ((by rw [hg]; exact Nat.ne_of_lt (blk_lt (g := gb149) (o := .cells #[.int .u64 a0_0, .int .u64 a0_1, .int .u64 a0_2, .string a0_3, .string a0_4] 29 (0, 0)) (by (with_reducible repeat (first | refine blk_drewN ?_ _ | refine blk_drew ?_ | refine blk_alloc ?_ _)); exact BK149.out)) : gb149 ≠ gb173))
                      have n7_ := Aside0.mk ((by rw [hg]; exact Nat.ne_of_gt (blk_lt (g := gb149) (o := .cells #[.int .u64 a0_0, .int .u64 a0_1, .int .u64 a0_2, .string a0_3, .string a0_4] 29 (0, 0)) (by (with_reducible repeat (first | refine blk_drewN ?_ _ | refine blk_drew ?_ | refine blk_alloc ?_ _)); exact BK149.out)) : gb173 ≠ gb149))
                      have n8_ := Aside0.mk ((by rw [hg]; exact Nat.ne_of_lt (blk_lt (g := gb172) (o := .cells #[.int .u64 0, .int .u64 0, .int .u64 0, .string (⟨#[]⟩ : ByteArray), .string (⟨#[]⟩ : ByteArray)] 29 (0, 0)) (by (with_reducible repeat (first | refine blk_drewN ?_ _ | refine blk_drew ?_ | refine blk_alloc ?_ _)); exact BK172.out)) : gb172 ≠ gb173))
                      have n9_ := Aside0.mk ((by rw [hg]; exact Nat.ne_of_gt (blk_lt (g := gb172) (o := .cells #[.int .u64 0, .int .u64 0, .int .u64 0, .string (⟨#[]⟩ : ByteArray), .string (⟨#[]⟩ : ByteArray)] 29 (0, 0)) (by (with_reducible repeat (first | refine blk_drewN ?_ _ | refine blk_drew ?_ | refine blk_alloc ?_ _)); exact BK172.out)) : gb173 ≠ gb172))
                      clear BK149
                      clear BK172
                      clear HB
                      have BK149 := n0_
                      have BK172 := n1_
                      have HB := n2_
                      have BK173 := n3_
                      have GW173 := n4_
                      have GE173 := n5_
                      have NB149_173 := n6_
                      have NB173_149 := n7_
                      have NB172_173 := n8_
                      have NB173_172 := n9_
                      clear n0_ n1_ n2_ n3_ n4_ n5_ n6_ n7_ n8_ n9_
                      clear hb hbox hg
                      refine hK.out _ _ ⟨(blk_cell BK149.out 0).trans rfl, (blk_cell BK149.out 1).trans rfl, (blk_cell BK149.out 2).trans rfl, (blk_cell BK149.out 3).trans rfl, (blk_cell BK149.out 4).trans rfl⟩ (fun hHeld => ?_)
                      clear hK K
                      refine norm_ (a' := ?_) ?_ ?_
                      rotate_left
                      ·
                       show Act.put _ (some 10) _ = _
                       simp only [Act.put, List.setIfInBounds_toArray, List.set_cons_zero, List.set_cons_succ, i64_w, i32_w]
                       rfl
                      exact norm_ (by first | (simp only [putAll, Act.put, List.setIfInBounds_toArray, List.set_cons_zero, List.set_cons_succ]; done) | (simp only [putAll, Act.put, List.setIfInBounds_toArray, List.set_cons_zero, List.set_cons_succ]; rfl)) (hJ4_6_14_15 (gb172, gb173) _ ⟨hHeld, (by (with_reducible repeat (first | refine blk_drewN ?_ _ | refine blk_drew ?_ | refine blk_alloc ?_ _)); exact BK149.out), (by (with_reducible repeat (first | refine blk_drewN ?_ _ | refine blk_drew ?_ | refine blk_alloc ?_ _)); exact BK172.out), (by (with_reducible repeat (first | refine blk_drewN ?_ _ | refine blk_drew ?_ | refine blk_alloc ?_ _)); exact BK173.out), GW172.out, GE172.out, NB149_172.out, NB172_149.out, NB173_172.out, NB172_173.out, GW173.out, GE173.out, NB149_173.out, NB173_149.out, (by repeat (first | (with_reducible first | exact HB.out | apply below_alloc | apply pw_below_drewN | apply below_drew1 | refine below_set ?_ GE149.out | refine below_set ?_ GE172.out | refine below_set ?_ GE173.out) | exact HB.out))⟩)
                   ·
                    skip
                    rintro _ w41 ⟨hS_, h0_, h1_⟩
                    have n0_ : Aside0 (w41.heap[gb149]? = some (.cells #[.int .u64 a0_0, .int .u64 a0_1, .int .u64 a0_2, .string a0_3, .string a0_4] 29 (0, 0))) := ⟨h0_⟩
                    have n1_ : Aside0 (Below w.heap.size w w41) := ⟨h1_⟩
                    clear BK149
                    clear HB
                    clear h0_ h1_
                    have BK149 := n0_
                    have HB := n1_
                    clear n0_ n1_
                    have hHeld : w41.cell? ⟨gb149, 0, none⟩ = some (.int .u64 a0_0) ∧ w41.cell? ⟨gb149, 1, none⟩ = some (.int .u64 a0_1) ∧ w41.cell? ⟨gb149, 2, none⟩ = some (.int .u64 a0_2) ∧ w41.cell? ⟨gb149, 3, none⟩ = some (.string a0_3) ∧ w41.cell? ⟨gb149, 4, none⟩ = some (.string a0_4) := hS_
                    refine norm_ (a' := ?_) ?_ ?_
                    rotate_left
                    ·
                     simp only [putAll, Act.put, List.setIfInBounds_toArray, List.set_cons_zero, List.set_cons_succ]
                     rfl
                    refine three_ (i := 13) (j := 14) (k := 15) (Ni := some 50) (Nj := some 9) (Nk := some 10) #[true, true, true, true, true, true, true, true, true, true, true, true, true, true, false, false, false, false] #[true, true, true, true, true, true, true, true, true, true, true, true, true, false, true, false, false, false] #[true, true, true, true, true, true, true, true, true, true, true, true, true, false, false, true, false, false] rfl rfl rfl rfl rfl rfl (three_of HT_.out (by kernel_rfl)) (by decide) (by decide) (by decide) (fun K hK => ?_) (fun K hK => ?_) (fun K hK => ?_)
                    ·
                     skip
                     refine goes_ Tryd.func29 (by kernel_rfl) rfl #[.agg #[.int .u64 a0_0, .int .u64 a0_1, .int .u64 a0_2, .string a0_3, .string a0_4], .string ((a1 ++ (⟨#[46]⟩ : ByteArray)) ++ t166)] (by rfl) rfl rfl (by (try simp only [List.map_toArray, List.map_cons, List.map_nil]); first | done | rfl | (simp only [List.length_drop, List.length_take]; rfl)) ?_
                     with_reducible refine (laws_svPre.calls a0_0 a0_1 a0_2 a0_3 a0_4 ((a1 ++ (⟨#[46]⟩ : ByteArray)) ++ t166) t167 t168 t169 t170 t171 _ A33.out).mono ?_
                     rintro e w42 ⟨rfl, hb⟩
                     refine ⟨_, rfl, ?_⟩
                     have n0_ := Aside0.mk (blk_below (by (with_reducible repeat (first | refine blk_drewN ?_ _ | refine blk_drew ?_ | refine blk_alloc ?_ _)); exact BK149.out) hb)
                     have n1_ := Aside0.mk (below_step (by repeat (first | (with_reducible first | exact HB.out | apply below_alloc | apply pw_below_drewN | apply below_drew1 | refine below_set ?_ GE149.out) | exact HB.out)) hb)
                     clear BK149
                     clear HB
                     have BK149 := n0_
                     have HB := n1_
                     clear n0_ n1_
                     (try clear hb)
                     (try clear hb2)
                     (try clear hk)
                     (try clear hi)
                     refine hK.out _ _ ⟨(blk_cell BK149.out 0).trans rfl, (blk_cell BK149.out 1).trans rfl, (blk_cell BK149.out 2).trans rfl, (blk_cell BK149.out 3).trans rfl, (blk_cell BK149.out 4).trans rfl⟩ (fun hHeld => ?_)
                     clear hK K
                     refine norm_ (a' := ?_) ?_ ?_
                     rotate_left
                     ·
                      show Act.put _ (some 50) _ = _
                      simp only [Act.put, List.setIfInBounds_toArray, List.set_cons_zero, List.set_cons_succ, i64_w, i32_w]
                      rfl
                     exact norm_ (by first | (simp only [putAll, Act.put, List.setIfInBounds_toArray, List.set_cons_zero, List.set_cons_succ]; done) | (simp only [putAll, Act.put, List.setIfInBounds_toArray, List.set_cons_zero, List.set_cons_succ]; rfl)) (hJ4_6_11_13 () _ ⟨hHeld, (by (with_reducible repeat (first | refine blk_drewN ?_ _ | refine blk_drew ?_ | refine blk_alloc ?_ _)); exact BK149.out), (by repeat (first | (with_reducible first | exact HB.out | apply below_alloc | apply pw_below_drewN | apply below_drew1 | refine below_set ?_ GE149.out) | exact HB.out))⟩)
                    ·
                     skip
                     refine box_step ?hg (N := 9) ?hd (cs := #[.int .u64 0, .int .u64 0, .int .u64 0, .string (⟨#[]⟩ : ByteArray), .string (⟨#[]⟩ : ByteArray)]) (t := 29) ?hr ?_; (case hd => rfl); (case hg => rfl); (case hr => first | (go_simp; done) | (go_simp; rfl))
                     intro gb172 hg w42 hbox hb
                     have n0_ := Aside0.mk (blk_below (by (with_reducible repeat (first | refine blk_drewN ?_ _ | refine blk_drew ?_ | refine blk_alloc ?_ _)); exact BK149.out) hb)
                     have n1_ := Aside0.mk (below_step (by repeat (first | (with_reducible first | exact HB.out | apply below_alloc | apply pw_below_drewN | apply below_drew1 | refine below_set ?_ GE149.out) | exact HB.out)) hb)
                     have n2_ := Aside0.mk (hbox)
                     have n3_ := Aside0.mk ((by rw [hg]; exact (below_size (by repeat (first | (with_reducible first | exact HB.out | apply below_alloc | apply pw_below_drewN | apply below_drew1 | refine below_set ?_ GE149.out) | exact HB.out))) : w.heap.size ≤ gb172))
                     have n4_ := Aside0.mk ((by rw [hg]; exact (below_size (by repeat (first | (with_reducible first | exact HB.out | apply below_alloc | apply pw_below_drewN | apply below_drew1 | refine below_set ?_ GE149.out) | exact HB.out))) : w.heap.size ≤ gb172))
                     have n5_ := Aside0.mk ((by rw [hg]; exact Nat.ne_of_lt (blk_lt (g := gb149) (o := .cells #[.int .u64 a0_0, .int .u64 a0_1, .int .u64 a0_2, .string a0_3, .string a0_4] 29 (0, 0)) (by (with_reducible repeat (first | refine blk_drewN ?_ _ | refine blk_drew ?_ | refine blk_alloc ?_ _)); exact BK149.out)) : gb149 ≠ gb172))
                     have n6_ := Aside0.mk ((by rw [hg]; exact Nat.ne_of_gt (blk_lt (g := gb149) (o := .cells #[.int .u64 a0_0, .int .u64 a0_1, .int .u64 a0_2, .string a0_3, .string a0_4] 29 (0, 0)) (by (with_reducible repeat (first | refine blk_drewN ?_ _ | refine blk_drew ?_ | refine blk_alloc ?_ _)); exact BK149.out)) : gb172 ≠ gb149))
                     clear BK149
                     clear HB
                     have BK149 := n0_
                     have HB := n1_
                     have BK172 := n2_
                     have GW172 := n3_
                     have GE172 := n4_
                     have NB149_172 := n5_
                     have NB172_149 := n6_
                     clear n0_ n1_ n2_ n3_ n4_ n5_ n6_
                     clear hb hbox hg
                     refine hK.out _ _ ⟨(blk_cell BK149.out 0).trans rfl, (blk_cell BK149.out 1).trans rfl, (blk_cell BK149.out 2).trans rfl, (blk_cell BK149.out 3).trans rfl, (blk_cell BK149.out 4).trans rfl⟩ (fun hHeld => ?_)
                     clear hK K
                     refine norm_ (a' := ?_) ?_ ?_
                     rotate_left
                     ·
                      show Act.put _ (some 9) _ = _
                      simp only [Act.put, List.setIfInBounds_toArray, List.set_cons_zero, List.set_cons_succ, i64_w, i32_w]
                      rfl
                     exact norm_ (by first | (simp only [putAll, Act.put, List.setIfInBounds_toArray, List.set_cons_zero, List.set_cons_succ]; done) | (simp only [putAll, Act.put, List.setIfInBounds_toArray, List.set_cons_zero, List.set_cons_succ]; rfl)) (hJ4_6_11_14 (gb172) _ ⟨hHeld, (by (with_reducible repeat (first | refine blk_drewN ?_ _ | refine blk_drew ?_ | refine blk_alloc ?_ _)); exact BK149.out), (by (with_reducible repeat (first | refine blk_drewN ?_ _ | refine blk_drew ?_ | refine blk_alloc ?_ _)); exact BK172.out), GW172.out, GE172.out, NB149_172.out, NB172_149.out, (by repeat (first | (with_reducible first | exact HB.out | apply below_alloc | apply pw_below_drewN | apply below_drew1 | refine below_set ?_ GE149.out | refine below_set ?_ GE172.out) | exact HB.out))⟩)
                    ·
                     skip
                     refine box_step ?hg (N := 10) ?hd (cs := #[.int .u64 0, .int .u64 0, .int .u64 0, .string (⟨#[]⟩ : ByteArray), .string (⟨#[]⟩ : ByteArray)]) (t := 29) ?hr ?_; (case hd => rfl); (case hg => rfl); (case hr => first | (go_simp; done) | (go_simp; rfl))
                     intro gb173 hg w42 hbox hb
                     have n0_ := Aside0.mk (blk_below (by (with_reducible repeat (first | refine blk_drewN ?_ _ | refine blk_drew ?_ | refine blk_alloc ?_ _)); exact BK149.out) hb)
                     have n1_ := Aside0.mk (below_step (by repeat (first | (with_reducible first | exact HB.out | apply below_alloc | apply pw_below_drewN | apply below_drew1 | refine below_set ?_ GE149.out) | exact HB.out)) hb)
                     have n2_ := Aside0.mk (hbox)
                     have n3_ := Aside0.mk ((by rw [hg]; exact (below_size (by repeat (first | (with_reducible first | exact HB.out | apply below_alloc | apply pw_below_drewN | apply below_drew1 | refine below_set ?_ GE149.out) | exact HB.out))) : w.heap.size ≤ gb173))
                     have n4_ := Aside0.mk ((by rw [hg]; exact (below_size (by repeat (first | (with_reducible first | exact HB.out | apply below_alloc | apply pw_below_drewN | apply below_drew1 | refine below_set ?_ GE149.out) | exact HB.out))) : w.heap.size ≤ gb173))
                     have n5_ := Aside0.mk ((by rw [hg]; exact Nat.ne_of_lt (blk_lt (g := gb149) (o := .cells #[.int .u64 a0_0, .int .u64 a0_1, .int .u64 a0_2, .string a0_3, .string a0_4] 29 (0, 0)) (by (with_reducible repeat (first | refine blk_drewN ?_ _ | refine blk_drew ?_ | refine blk_alloc ?_ _)); exact BK149.out)) : gb149 ≠ gb173))
                     have n6_ := Aside0.mk ((by rw [hg]; exact Nat.ne_of_gt (blk_lt (g := gb149) (o := .cells #[.int .u64 a0_0, .int .u64 a0_1, .int .u64 a0_2, .string a0_3, .string a0_4] 29 (0, 0)) (by (with_reducible repeat (first | refine blk_drewN ?_ _ | refine blk_drew ?_ | refine blk_alloc ?_ _)); exact BK149.out)) : gb173 ≠ gb149))
                     clear BK149
                     clear HB
                     have BK149 := n0_
                     have HB := n1_
                     have BK173 := n2_
                     have GW173 := n3_
                     have GE173 := n4_
                     have NB149_173 := n5_
                     have NB173_149 := n6_
                     clear n0_ n1_ n2_ n3_ n4_ n5_ n6_
                     clear hb hbox hg
                     refine hK.out _ _ ⟨(blk_cell BK149.out 0).trans rfl, (blk_cell BK149.out 1).trans rfl, (blk_cell BK149.out 2).trans rfl, (blk_cell BK149.out 3).trans rfl, (blk_cell BK149.out 4).trans rfl⟩ (fun hHeld => ?_)
                     clear hK K
                     refine norm_ (a' := ?_) ?_ ?_
                     rotate_left
                     ·
                      show Act.put _ (some 10) _ = _
                      simp only [Act.put, List.setIfInBounds_toArray, List.set_cons_zero, List.set_cons_succ, i64_w, i32_w]
                      rfl
                     exact norm_ (by first | (simp only [putAll, Act.put, List.setIfInBounds_toArray, List.set_cons_zero, List.set_cons_succ]; done) | (simp only [putAll, Act.put, List.setIfInBounds_toArray, List.set_cons_zero, List.set_cons_succ]; rfl)) (hJ4_6_11_15 (gb173) _ ⟨hHeld, (by (with_reducible repeat (first | refine blk_drewN ?_ _ | refine blk_drew ?_ | refine blk_alloc ?_ _)); exact BK149.out), (by (with_reducible repeat (first | refine blk_drewN ?_ _ | refine blk_drew ?_ | refine blk_alloc ?_ _)); exact BK173.out), GW173.out, GE173.out, NB149_173.out, NB173_149.out, (by repeat (first | (with_reducible first | exact HB.out | apply below_alloc | apply pw_below_drewN | apply below_drew1 | refine below_set ?_ GE149.out | refine below_set ?_ GE173.out) | exact HB.out))⟩)
                  ·
                   skip
                   rintro ⟨gb172, gb173⟩ w42 ⟨hS_, h0_, h1_, h2_, h3_, h4_, h5_, h6_, h7_, h8_, h9_, h10_, h11_, h12_, h13_⟩
                   have n0_ : Aside0 (w42.heap[gb149]? = some (.cells #[.int .u64 a0_0, .int .u64 a0_1, .int .u64 a0_2, .string a0_3, .string a0_4] 29 (0, 0))) := ⟨h0_⟩
                   have n1_ : Aside0 (w42.heap[gb172]? = some (.cells #[.int .u64 0, .int .u64 0, .int .u64 0, .string (⟨#[]⟩ : ByteArray), .string (⟨#[]⟩ : ByteArray)] 29 (0, 0))) := ⟨h1_⟩
                   have n2_ : Aside0 (w42.heap[gb173]? = some (.cells #[.int .u64 0, .int .u64 0, .int .u64 0, .string (⟨#[]⟩ : ByteArray), .string (⟨#[]⟩ : ByteArray)] 29 (0, 0))) := ⟨h2_⟩
                   have n3_ : Aside0 (w.heap.size ≤ gb172) := ⟨h3_⟩
                   have n4_ : Aside0 (w.heap.size ≤ gb172) := ⟨h4_⟩
                   have n5_ : Aside0 (gb149 ≠ gb172) := ⟨h5_⟩
                   have n6_ : Aside0 (gb172 ≠ gb149) := ⟨h6_⟩
                   have n7_ : Aside0 (gb173 ≠ gb172) := ⟨h7_⟩
                   have n8_ : Aside0 (gb172 ≠ gb173) := ⟨h8_⟩
                   have n9_ : Aside0 (w.heap.size ≤ gb173) := ⟨h9_⟩
                   have n10_ : Aside0 (w.heap.size ≤ gb173) := ⟨h10_⟩
                   have n11_ : Aside0 (gb149 ≠ gb173) := ⟨h11_⟩
                   have n12_ : Aside0 (gb173 ≠ gb149) := ⟨h12_⟩
                   have n13_ : Aside0 (Below w.heap.size w w42) := ⟨h13_⟩
                   clear BK149
                   clear HB
                   clear h0_ h1_ h2_ h3_ h4_ h5_ h6_ h7_ h8_ h9_ h10_ h11_ h12_ h13_
                   have BK149 := n0_
                   have BK172 := n1_
                   have BK173 := n2_
                   have GW172 := n3_
                   have GE172 := n4_
                   have NB149_172 := n5_
                   have NB172_149 := n6_
                   have NB173_172 := n7_
                   have NB172_173 := n8_
                   have GW173 := n9_
                   have GE173 := n10_
                   have NB149_173 := n11_
                   have NB173_149 := n12_
                   have HB := n13_
                   clear n0_ n1_ n2_ n3_ n4_ n5_ n6_ n7_ n8_ n9_ n10_ n11_ n12_ n13_
                   have hHeld : w42.cell? ⟨gb149, 0, none⟩ = some (.int .u64 a0_0) ∧ w42.cell? ⟨gb149, 1, none⟩ = some (.int .u64 a0_1) ∧ w42.cell? ⟨gb149, 2, none⟩ = some (.int .u64 a0_2) ∧ w42.cell? ⟨gb149, 3, none⟩ = some (.string a0_3) ∧ w42.cell? ⟨gb149, 4, none⟩ = some (.string a0_4) := hS_
                   refine norm_ (a' := ?_) ?_ ?_
                   rotate_left
                   ·
                    simp only [putAll, Act.put, List.setIfInBounds_toArray, List.set_cons_zero, List.set_cons_succ]
                    rfl
                   refine one_ (i := 11) (N := some 48) #[true, true, true, true, true, true, true, true, true, true, true, true, false, false, true, true, false, false] rfl rfl (one_of HT_.out (by kernel_rfl)) (by decide) (fun K hK => ?_)
                   refine goes_ Tryd.func30 (by kernel_rfl) rfl #[.int .u64 a3] (by rfl) rfl rfl (by (try simp only [List.map_toArray, List.map_cons, List.map_nil]); first | done | rfl | (simp only [List.length_drop, List.length_take]; rfl)) ?_
                   with_reducible refine (spec_Decimal.calls kj13 a3 t166 _ A31.out).mono ?_
                   rintro e w43 ⟨rfl, hb⟩
                   refine ⟨_, rfl, ?_⟩
                   have n0_ := Aside0.mk (blk_below (by (with_reducible repeat (first | refine blk_drewN ?_ _ | refine blk_drew ?_ | refine blk_alloc ?_ _)); exact BK149.out) hb)
                   have n1_ := Aside0.mk (blk_below (g := gb172) (o := .cells #[.int .u64 0, .int .u64 0, .int .u64 0, .string (⟨#[]⟩ : ByteArray), .string (⟨#[]⟩ : ByteArray)] 29 (0, 0)) (by (with_reducible repeat (first | refine blk_drewN ?_ _ | refine blk_drew ?_ | refine blk_alloc ?_ _)); exact BK172.out) hb)
                   have n2_ := Aside0.mk (blk_below (g := gb173) (o := .cells #[.int .u64 0, .int .u64 0, .int .u64 0, .string (⟨#[]⟩ : ByteArray), .string (⟨#[]⟩ : ByteArray)] 29 (0, 0)) (by (with_reducible repeat (first | refine blk_drewN ?_ _ | refine blk_drew ?_ | refine blk_alloc ?_ _)); exact BK173.out) hb)
                   have n3_ := Aside0.mk (below_step (by repeat (first | (with_reducible first | exact HB.out | apply below_alloc | apply pw_below_drewN | apply below_drew1 | refine below_set ?_ GE149.out | refine below_set ?_ GE172.out | refine below_set ?_ GE173.out) | exact HB.out)) hb)
                   clear BK149
                   clear BK172
                   clear BK173
                   clear HB
                   have BK149 := n0_
                   have BK172 := n1_
                   have BK173 := n2_
                   have HB := n3_
                   clear n0_ n1_ n2_ n3_
                   (try clear hb)
                   (try clear hb2)
                   (try clear hk)
                   (try clear hi)
                   refine hK.out _ _ ⟨(blk_cell BK149.out 0).trans rfl, (blk_cell BK149.out 1).trans rfl, (blk_cell BK149.out 2).trans rfl, (blk_cell BK149.out 3).trans rfl, (blk_cell BK149.out 4).trans rfl⟩ (fun hHeld => ?_)
                   clear hK K
                   refine norm_ (a' := ?_) ?_ ?_
                   rotate_left
                   ·
                    show Act.put _ (some 48) _ = _
                    simp only [Act.put, List.setIfInBounds_toArray, List.set_cons_zero, List.set_cons_succ, i64_w, i32_w]
                    rfl
                   refine pure_ (i := 12) (N := some 49) (v := ?_) (a' := ?_) #[true, true, true, true, true, true, true, true, true, true, true, true, true, false, true, true, false, false] rfl rfl (any_of HT_.out (by kernel_rfl)) (fun _ _ _ h => h) (Or.inl ⟨by rfl, ?_⟩) ?_ ?_
                   rotate_left
                   ·
                    intro w'
                    go_simp
                    with_reducible rfl
                   rotate_left
                   ·
                    simp only [Act.put, List.setIfInBounds_toArray, List.set_cons_zero, List.set_cons_succ, i64_w, i32_w]
                    rfl
                   exact norm_ (by first | (simp only [putAll, Act.put, List.setIfInBounds_toArray, List.set_cons_zero, List.set_cons_succ]; done) | (simp only [putAll, Act.put, List.setIfInBounds_toArray, List.set_cons_zero, List.set_cons_succ]; rfl)) (hJ4_6_11_14_15 (gb172, gb173) _ ⟨hHeld, (by (with_reducible repeat (first | refine blk_drewN ?_ _ | refine blk_drew ?_ | refine blk_alloc ?_ _)); exact BK149.out), (by (with_reducible repeat (first | refine blk_drewN ?_ _ | refine blk_drew ?_ | refine blk_alloc ?_ _)); exact BK172.out), (by (with_reducible repeat (first | refine blk_drewN ?_ _ | refine blk_drew ?_ | refine blk_alloc ?_ _)); exact BK173.out), GW172.out, GE172.out, NB149_172.out, NB172_149.out, NB173_172.out, NB172_173.out, GW173.out, GE173.out, NB149_173.out, NB173_149.out, (by repeat (first | (with_reducible first | exact HB.out | apply below_alloc | apply pw_below_drewN | apply below_drew1 | refine below_set ?_ GE149.out | refine below_set ?_ GE172.out | refine below_set ?_ GE173.out) | exact HB.out))⟩)
                 ·
                  skip
                  rintro gb173 w42 ⟨hS_, h0_, h1_, h2_, h3_, h4_, h5_, h6_⟩
                  have n0_ : Aside0 (w42.heap[gb149]? = some (.cells #[.int .u64 a0_0, .int .u64 a0_1, .int .u64 a0_2, .string a0_3, .string a0_4] 29 (0, 0))) := ⟨h0_⟩
                  have n1_ : Aside0 (w42.heap[gb173]? = some (.cells #[.int .u64 0, .int .u64 0, .int .u64 0, .string (⟨#[]⟩ : ByteArray), .string (⟨#[]⟩ : ByteArray)] 29 (0, 0))) := ⟨h1_⟩
                  have n2_ : Aside0 (w.heap.size ≤ gb173) := ⟨h2_⟩
                  have n3_ : Aside0 (w.heap.size ≤ gb173) := ⟨h3_⟩
                  have n4_ : Aside0 (gb149 ≠ gb173) := ⟨h4_⟩
                  have n5_ : Aside0 (gb173 ≠ gb149) := ⟨h5_⟩
                  have n6_ : Aside0 (Below w.heap.size w w42) := ⟨h6_⟩
                  clear BK149
                  clear HB
                  clear h0_ h1_ h2_ h3_ h4_ h5_ h6_
                  have BK149 := n0_
                  have BK173 := n1_
                  have GW173 := n2_
                  have GE173 := n3_
                  have NB149_173 := n4_
                  have NB173_149 := n5_
                  have HB := n6_
                  clear n0_ n1_ n2_ n3_ n4_ n5_ n6_
                  have hHeld : w42.cell? ⟨gb149, 0, none⟩ = some (.int .u64 a0_0) ∧ w42.cell? ⟨gb149, 1, none⟩ = some (.int .u64 a0_1) ∧ w42.cell? ⟨gb149, 2, none⟩ = some (.int .u64 a0_2) ∧ w42.cell? ⟨gb149, 3, none⟩ = some (.string a0_3) ∧ w42.cell? ⟨gb149, 4, none⟩ = some (.string a0_4) := hS_
                  refine norm_ (a' := ?_) ?_ ?_
                  rotate_left
                  ·
                   simp only [putAll, Act.put, List.setIfInBounds_toArray, List.set_cons_zero, List.set_cons_succ]
                   rfl
                  refine two_ (i := 13) (j := 14) (Ni := some 50) (Nj := some 9) #[true, true, true, true, true, true, true, true, true, true, true, true, true, true, false, true, false, false] #[true, true, true, true, true, true, true, true, true, true, true, true, true, false, true, true, false, false] rfl rfl rfl rfl (two_of HT_.out (by kernel_rfl)) (by decide) (by decide) (fun K hK => ?_) (fun K hK => ?_)
                  ·
                   skip
                   refine goes_ Tryd.func29 (by kernel_rfl) rfl #[.agg #[.int .u64 a0_0, .int .u64 a0_1, .int .u64 a0_2, .string a0_3, .string a0_4], .string ((a1 ++ (⟨#[46]⟩ : ByteArray)) ++ t166)] (by rfl) rfl rfl (by (try simp only [List.map_toArray, List.map_cons, List.map_nil]); first | done | rfl | (simp only [List.length_drop, List.length_take]; rfl)) ?_
                   with_reducible refine (laws_svPre.calls a0_0 a0_1 a0_2 a0_3 a0_4 ((a1 ++ (⟨#[46]⟩ : ByteArray)) ++ t166) t167 t168 t169 t170 t171 _ A33.out).mono ?_
                   rintro e w43 ⟨rfl, hb⟩
                   refine ⟨_, rfl, ?_⟩
                   have n0_ := Aside0.mk (blk_below (by (with_reducible repeat (first | refine blk_drewN ?_ _ | refine blk_drew ?_ | refine blk_alloc ?_ _)); exact BK149.out) hb)
                   have n1_ := Aside0.mk (blk_below (g := gb173) (o := .cells #[.int .u64 0, .int .u64 0, .int .u64 0, .string (⟨#[]⟩ : ByteArray), .string (⟨#[]⟩ : ByteArray)] 29 (0, 0)) (by (with_reducible repeat (first | refine blk_drewN ?_ _ | refine blk_drew ?_ | refine blk_alloc ?_ _)); exact BK173.out) hb)
                   have n2_ := Aside0.mk (below_step (by repeat (first | (with_reducible first | exact HB.out | apply below_alloc | apply pw_below_drewN | apply below_drew1 | refine below_set ?_ GE149.out | refine below_set ?_ GE173.out) | exact HB.out)) hb)
                   clear BK149
                   clear BK173
                   clear HB
                   have BK149 := n0_
                   have BK173 := n1_
                   have HB := n2_
                   clear n0_ n1_ n2_
                   (try clear hb)
                   (try clear hb2)
                   (try clear hk)
                   (try clear hi)
                   refine hK.out _ _ ⟨(blk_cell BK149.out 0).trans rfl, (blk_cell BK149.out 1).trans rfl, (blk_cell BK149.out 2).trans rfl, (blk_cell BK149.out 3).trans rfl, (blk_cell BK149.out 4).trans rfl⟩ (fun hHeld => ?_)
                   clear hK K
                   refine norm_ (a' := ?_) ?_ ?_
                   rotate_left
                   ·
                    show Act.put _ (some 50) _ = _
                    simp only [Act.put, List.setIfInBounds_toArray, List.set_cons_zero, List.set_cons_succ, i64_w, i32_w]
                    rfl
                   exact norm_ (by first | (simp only [putAll, Act.put, List.setIfInBounds_toArray, List.set_cons_zero, List.set_cons_succ]; done) | (simp only [putAll, Act.put, List.setIfInBounds_toArray, List.set_cons_zero, List.set_cons_succ]; rfl)) (hJ4_6_11_13_15 (gb173) _ ⟨hHeld, (by (with_reducible repeat (first | refine blk_drewN ?_ _ | refine blk_drew ?_ | refine blk_alloc ?_ _)); exact BK149.out), (by (with_reducible repeat (first | refine blk_drewN ?_ _ | refine blk_drew ?_ | refine blk_alloc ?_ _)); exact BK173.out), GW173.out, GE173.out, NB149_173.out, NB173_149.out, (by repeat (first | (with_reducible first | exact HB.out | apply below_alloc | apply pw_below_drewN | apply below_drew1 | refine below_set ?_ GE149.out | refine below_set ?_ GE173.out) | exact HB.out))⟩)
                  ·
                   skip
                   refine box_step ?hg (N := 9) ?hd (cs := #[.int .u64 0, .int .u64 0, .int .u64 0, .string (⟨#[]⟩ : ByteArray), .string (⟨#[]⟩ : ByteArray)]) (t := 29) ?hr ?_; (case hd => rfl); (case hg => rfl); (case hr => first | (go_simp; done) | (go_simp; rfl))
                   intro gb172 hg w43 hbox hb
                   have n0_ := Aside0.mk (blk_below (by (with_reducible repeat (first | refine blk_drewN ?_ _ | refine blk_drew ?_ | refine blk_alloc ?_ _)); exact BK149.out) hb)
                   have n1_ := Aside0.mk (blk_below (g := gb173) (o := .cells #[.int .u64 0, .int .u64 0, .int .u64 0, .string (⟨#[]⟩ : ByteArray), .string (⟨#[]⟩ : ByteArray)] 29 (0, 0)) (by (with_reducible repeat (first | refine blk_drewN ?_ _ | refine blk_drew ?_ | refine blk_alloc ?_ _)); exact BK173.out) hb)
                   have n2_ := Aside0.mk (below_step (by repeat (first | (with_reducible first | exact HB.out | apply below_alloc | apply pw_below_drewN | apply below_drew1 | refine below_set ?_ GE149.out | refine below_set ?_ GE173.out) | exact HB.out)) hb)
                   have n3_ := Aside0.mk (hbox)
                   have n4_ := Aside0.mk ((by rw [hg]; exact (below_size (by repeat (first | (with_reducible first | exact HB.out | apply below_alloc | apply pw_below_drewN | apply below_drew1 | refine below_set ?_ GE149.out | refine below_set ?_ GE173.out) | exact HB.out))) : w.heap.size ≤ gb172))
                   have n5_ := Aside0.mk ((by rw [hg]; exact (below_size (by repeat (first | (with_reducible first | exact HB.out | apply below_alloc | apply pw_below_drewN | apply below_drew1 | refine below_set ?_ GE149.out | refine below_set ?_ GE173.out) | exact HB.out))) : w.heap.size ≤ gb172))
                   have n6_ := Aside0.mk ((by rw [hg]; exact Nat.ne_of_lt (blk_lt (g := gb149) (o := .cells #[.int .u64 a0_0, .int .u64 a0_1, .int .u64 a0_2, .string a0_3, .string a0_4] 29 (0, 0)) (by (with_reducible repeat (first | refine blk_drewN ?_ _ | refine blk_drew ?_ | refine blk_alloc ?_ _)); exact BK149.out)) : gb149 ≠ gb172))
                   have n7_ := Aside0.mk ((by rw [hg]; exact Nat.ne_of_gt (blk_lt (g := gb149) (o := .cells #[.int .u64 a0_0, .int .u64 a0_1, .int .u64 a0_2, .string a0_3, .string a0_4] 29 (0, 0)) (by (with_reducible repeat (first | refine blk_drewN ?_ _ | refine blk_drew ?_ | refine blk_alloc ?_ _)); exact BK149.out)) : gb172 ≠ gb149))
                   have n8_ := Aside0.mk ((by rw [hg]; exact Nat.ne_of_lt (blk_lt (g := gb173) (o := .cells #[.int .u64 0, .int .u64 0, .int .u64 0, .string (⟨#[]⟩ : ByteArray), .string (⟨#[]⟩ : ByteArray)] 29 (0, 0)) (by (with_reducible repeat (first | refine blk_drewN ?_ _ | refine blk_drew ?_ | refine blk_alloc ?_ _)); exact BK173.out)) : gb173 ≠ gb172))
                   have n9_ := Aside0.mk ((by rw [hg]; exact Nat.ne_of_gt (blk_lt (g := gb173) (o := .cells #[.int .u64 0, .int .u64 0, .int .u64 0, .string (⟨#[]⟩ : ByteArray), .string (⟨#[]⟩ : ByteArray)] 29 (0, 0)) (by (with_reducible repeat (first | refine blk_drewN ?_ _ | refine blk_drew ?_ | refine blk_alloc ?_ _)); exact BK173.out)) : gb172 ≠ gb173))
                   clear BK149
                   clear BK173
                   clear HB
                   have BK149 := n0_
                   have BK173 := n1_
                   have HB := n2_
                   have BK172 := n3_
                   have GW172 := n4_
                   have GE172 := n5_
                   have NB149_172 := n6_
                   have NB172_149 := n7_
                   have NB173_172 := n8_
                   have NB172_173 := n9_
                   clear n0_ n1_ n2_ n3_ n4_ n5_ n6_ n7_ n8_ n9_
                   clear hb hbox hg
                   refine hK.out _ _ ⟨(blk_cell BK149.out 0).trans rfl, (blk_cell BK149.out 1).trans rfl, (blk_cell BK149.out 2).trans rfl, (blk_cell BK149.out 3).trans rfl, (blk_cell BK149.out 4).trans rfl⟩ (fun hHeld => ?_)
                   clear hK K
                   refine norm_ (a' := ?_) ?_ ?_
                   rotate_left
                   ·
                    show Act.put _ (some 9) _ = _
                    simp only [Act.put, List.setIfInBounds_toArray, List.set_cons_zero, List.set_cons_succ, i64_w, i32_w]
                    rfl
                   exact norm_ (by first | (simp only [putAll, Act.put, List.setIfInBounds_toArray, List.set_cons_zero, List.set_cons_succ]; done) | (simp only [putAll, Act.put, List.setIfInBounds_toArray, List.set_cons_zero, List.set_cons_succ]; rfl)) (hJ4_6_11_14_15 (gb172, gb173) _ ⟨hHeld, (by (with_reducible repeat (first | refine blk_drewN ?_ _ | refine blk_drew ?_ | refine blk_alloc ?_ _)); exact BK149.out), (by (with_reducible repeat (first | refine blk_drewN ?_ _ | refine blk_drew ?_ | refine blk_alloc ?_ _)); exact BK172.out), (by (with_reducible repeat (first | refine blk_drewN ?_ _ | refine blk_drew ?_ | refine blk_alloc ?_ _)); exact BK173.out), GW172.out, GE172.out, NB149_172.out, NB172_149.out, NB173_172.out, NB172_173.out, GW173.out, GE173.out, NB149_173.out, NB173_149.out, (by repeat (first | (with_reducible first | exact HB.out | apply below_alloc | apply pw_below_drewN | apply below_drew1 | refine below_set ?_ GE149.out | refine below_set ?_ GE173.out | refine below_set ?_ GE172.out) | exact HB.out))⟩)
                ·
                 skip
                 rintro gb172 w42 ⟨hS_, h0_, h1_, h2_, h3_, h4_, h5_, h6_⟩
                 have n0_ : Aside0 (w42.heap[gb149]? = some (.cells #[.int .u64 a0_0, .int .u64 a0_1, .int .u64 a0_2, .string a0_3, .string a0_4] 29 (0, 0))) := ⟨h0_⟩
                 have n1_ : Aside0 (w42.heap[gb172]? = some (.cells #[.int .u64 0, .int .u64 0, .int .u64 0, .string (⟨#[]⟩ : ByteArray), .string (⟨#[]⟩ : ByteArray)] 29 (0, 0))) := ⟨h1_⟩
                 have n2_ : Aside0 (w.heap.size ≤ gb172) := ⟨h2_⟩
                 have n3_ : Aside0 (w.heap.size ≤ gb172) := ⟨h3_⟩
                 have n4_ : Aside0 (gb149 ≠ gb172) := ⟨h4_⟩
                 have n5_ : Aside0 (gb172 ≠ gb149) := ⟨h5_⟩
                 have n6_ : Aside0 (Below w.heap.size w w42) := ⟨h6_⟩
                 clear BK149
                 clear HB
                 clear h0_ h1_ h2_ h3_ h4_ h5_ h6_
                 have BK149 := n0_
                 have BK172 := n1_
                 have GW172 := n2_
                 have GE172 := n3_
                 have NB149_172 := n4_
                 have NB172_149 := n5_
                 have HB := n6_
                 clear n0_ n1_ n2_ n3_ n4_ n5_ n6_
                 have hHeld : w42.cell? ⟨gb149, 0, none⟩ = some (.int .u64 a0_0) ∧ w42.cell? ⟨gb149, 1, none⟩ = some (.int .u64 a0_1) ∧ w42.cell? ⟨gb149, 2, none⟩ = some (.int .u64 a0_2) ∧ w42.cell? ⟨gb149, 3, none⟩ = some (.string a0_3) ∧ w42.cell? ⟨gb149, 4, none⟩ = some (.string a0_4) := hS_
                 refine norm_ (a' := ?_) ?_ ?_
                 rotate_left
                 ·
                  simp only [putAll, Act.put, List.setIfInBounds_toArray, List.set_cons_zero, List.set_cons_succ]
                  rfl
                 refine two_ (i := 13) (j := 15) (Ni := some 50) (Nj := some 10) #[true, true, true, true, true, true, true, true, true, true, true, true, true, true, true, false, false, false] #[true, true, true, true, true, true, true, true, true, true, true, true, true, false, true, true, false, false] rfl rfl rfl rfl (two_of HT_.out (by kernel_rfl)) (by decide) (by decide) (fun K hK => ?_) (fun K hK => ?_)
                 ·
                  skip
                  refine goes_ Tryd.func29 (by kernel_rfl) rfl #[.agg #[.int .u64 a0_0, .int .u64 a0_1, .int .u64 a0_2, .string a0_3, .string a0_4], .string ((a1 ++ (⟨#[46]⟩ : ByteArray)) ++ t166)] (by rfl) rfl rfl (by (try simp only [List.map_toArray, List.map_cons, List.map_nil]); first | done | rfl | (simp only [List.length_drop, List.length_take]; rfl)) ?_
                  with_reducible refine (laws_svPre.calls a0_0 a0_1 a0_2 a0_3 a0_4 ((a1 ++ (⟨#[46]⟩ : ByteArray)) ++ t166) t167 t168 t169 t170 t171 _ A33.out).mono ?_
                  rintro e w43 ⟨rfl, hb⟩
                  refine ⟨_, rfl, ?_⟩
                  have n0_ := Aside0.mk (blk_below (by (with_reducible repeat (first | refine blk_drewN ?_ _ | refine blk_drew ?_ | refine blk_alloc ?_ _)); exact BK149.out) hb)
                  have n1_ := Aside0.mk (blk_below (g := gb172) (o := .cells #[.int .u64 0, .int .u64 0, .int .u64 0, .string (⟨#[]⟩ : ByteArray), .string (⟨#[]⟩ : ByteArray)] 29 (0, 0)) (by (with_reducible repeat (first | refine blk_drewN ?_ _ | refine blk_drew ?_ | refine blk_alloc ?_ _)); exact BK172.out) hb)
                  have n2_ := Aside0.mk (below_step (by repeat (first | (with_reducible first | exact HB.out | apply below_alloc | apply pw_below_drewN | apply below_drew1 | refine below_set ?_ GE149.out | refine below_set ?_ GE172.out) | exact HB.out)) hb)
                  clear BK149
                  clear BK172
                  clear HB
                  have BK149 := n0_
                  have BK172 := n1_
                  have HB := n2_
                  clear n0_ n1_ n2_
                  (try clear hb)
                  (try clear hb2)
                  (try clear hk)
                  (try clear hi)
                  refine hK.out _ _ ⟨(blk_cell BK149.out 0).trans rfl, (blk_cell BK149.out 1).trans rfl, (blk_cell BK149.out 2).trans rfl, (blk_cell BK149.out 3).trans rfl, (blk_cell BK149.out 4).trans rfl⟩ (fun hHeld => ?_)
                  clear hK K
                  refine norm_ (a' := ?_) ?_ ?_
                  rotate_left
                  ·
                   show Act.put _ (some 50) _ = _
                   simp only [Act.put, List.setIfInBounds_toArray, List.set_cons_zero, List.set_cons_succ, i64_w, i32_w]
                   rfl
                  exact norm_ (by first | (simp only [putAll, Act.put, List.setIfInBounds_toArray, List.set_cons_zero, List.set_cons_succ]; done) | (simp only [putAll, Act.put, List.setIfInBounds_toArray, List.set_cons_zero, List.set_cons_succ]; rfl)) (hJ4_6_11_13_14 (gb172) _ ⟨hHeld, (by (with_reducible repeat (first | refine blk_drewN ?_ _ | refine blk_drew ?_ | refine blk_alloc ?_ _)); exact BK149.out), (by (with_reducible repeat (first | refine blk_drewN ?_ _ | refine blk_drew ?_ | refine blk_alloc ?_ _)); exact BK172.out), GW172.out, GE172.out, NB149_172.out, NB172_149.out, (by repeat (first | (with_reducible first | exact HB.out | apply below_alloc | apply pw_below_drewN | apply below_drew1 | refine below_set ?_ GE149.out | refine below_set ?_ GE172.out) | exact HB.out))⟩)
                 ·
                  skip
                  refine box_step ?hg (N := 10) ?hd (cs := #[.int .u64 0, .int .u64 0, .int .u64 0, .string (⟨#[]⟩ : ByteArray), .string (⟨#[]⟩ : ByteArray)]) (t := 29) ?hr ?_; (case hd => rfl); (case hg => rfl); (case hr => first | (go_simp; done) | (go_simp; rfl))
                  intro gb173 hg w43 hbox hb
                  have n0_ := Aside0.mk (blk_below (by (with_reducible repeat (first | refine blk_drewN ?_ _ | refine blk_drew ?_ | refine blk_alloc ?_ _)); exact BK149.out) hb)
                  have n1_ := Aside0.mk (blk_below (g := gb172) (o := .cells #[.int .u64 0, .int .u64 0, .int .u64 0, .string (⟨#[]⟩ : ByteArray), .string (⟨#[]⟩ : ByteArray)] 29 (0, 0)) (by (with_reducible repeat (first | refine blk_drewN ?_ _ | refine blk_drew ?_ | refine blk_alloc ?_ _)); exact BK172.out) hb)
                  have n2_ := Aside0.mk (below_step (by repeat (first | (with_reducible first | exact HB.out | apply below_alloc | apply pw_below_drewN | apply below_drew1 | refine below_set ?_ GE149.out | refine below_set ?_ GE172.out) | exact HB.out)) hb)
                  have n3_ := Aside0.mk (hbox)
                  have n4_ := Aside0.mk ((by rw [hg]; exact (below_size (by repeat (first | (with_reducible first | exact HB.out | apply below_alloc | apply pw_below_drewN | apply below_drew1 | refine below_set ?_ GE149.out | refine below_set ?_ GE172.out) | exact HB.out))) : w.heap.size ≤ gb173))
                  have n5_ := Aside0.mk ((by rw [hg]; exact (below_size (by repeat (first | (with_reducible first | exact HB.out | apply below_alloc | apply pw_below_drewN | apply below_drew1 | refine below_set ?_ GE149.out | refine below_set ?_ GE172.out) | exact HB.out))) : w.heap.size ≤ gb173))
                  have n6_ := Aside0.mk ((by rw [hg]; exact Nat.ne_of_lt (blk_lt (g := gb149) (o := .cells #[.int .u64 a0_0, .int .u64 a0_1, .int .u64 a0_2, .string a0_3, .string a0_4] 29 (0, 0)) (by (with_reducible repeat (first | refine blk_drewN ?_ _ | refine blk_drew ?_ | refine blk_alloc ?_ _)); exact BK149.out)) : gb149 ≠ gb173))
                  have n7_ := Aside0.mk ((by rw [hg]; exact Nat.ne_of_gt (blk_lt (g := gb149) (o := .cells #[.int .u64 a0_0, .int .u64 a0_1, .int .u64 a0_2, .string a0_3, .string a0_4] 29 (0, 0)) (by (with_reducible repeat (first | refine blk_drewN ?_ _ | refine blk_drew ?_ | refine blk_alloc ?_ _)); exact BK149.out)) : gb173 ≠ gb149))
                  have n8_ := Aside0.mk ((by rw [hg]; exact Nat.ne_of_lt (blk_lt (g := gb172) (o := .cells #[.int .u64 0, .int .u64 0, .int .u64 0, .string (⟨#[]⟩ : ByteArray), .string (⟨#[]⟩ : ByteArray)] 29 (0, 0)) (by (with_reducible repeat (first | refine blk_drewN ?_ _ | refine blk_drew ?_ | refine blk_alloc ?_ _)); exact BK172.out)) : gb172 ≠ gb173))
                  have n9_ := Aside0.mk ((by rw [hg]; exact Nat.ne_of_gt (blk_lt (g := gb172) (o := .cells #[.int .u64 0, .int .u64 0, .int .u64 0, .string (⟨#[]⟩ : ByteArray), .string (⟨#[]⟩ : ByteArray)] 29 (0, 0)) (by (with_reducible repeat (first | refine blk_drewN ?_ _ | refine blk_drew ?_ | refine blk_alloc ?_ _)); exact BK172.out)) : gb173 ≠ gb172))
                  clear BK149
                  clear BK172
                  clear HB
                  have BK149 := n0_
                  have BK172 := n1_
                  have HB := n2_
                  have BK173 := n3_
                  have GW173 := n4_
                  have GE173 := n5_
                  have NB149_173 := n6_
                  have NB173_149 := n7_
                  have NB172_173 := n8_
                  have NB173_172 := n9_
                  clear n0_ n1_ n2_ n3_ n4_ n5_ n6_ n7_ n8_ n9_
                  clear hb hbox hg
                  refine hK.out _ _ ⟨(blk_cell BK149.out 0).trans rfl, (blk_cell BK149.out 1).trans rfl, (blk_cell BK149.out 2).trans rfl, (blk_cell BK149.out 3).trans rfl, (blk_cell BK149.out 4).trans rfl⟩ (fun hHeld => ?_)
                  clear hK K
                  refine norm_ (a' := ?_) ?_ ?_
                  rotate_left
                  ·
                   show Act.put _ (some 10) _ = _
                   simp only [Act.put, List.setIfInBounds_toArray, List.set_cons_zero, List.set_cons_succ, i64_w, i32_w]
                   rfl
                  exact norm_ (by first | (simp only [putAll, Act.put, List.setIfInBounds_toArray, List.set_cons_zero, List.set_cons_succ]; done) | (simp only [putAll, Act.put, List.setIfInBounds_toArray, List.set_cons_zero, List.set_cons_succ]; rfl)) (hJ4_6_11_14_15 (gb172, gb173) _ ⟨hHeld, (by (with_reducible repeat (first | refine blk_drewN ?_ _ | refine blk_drew ?_ | refine blk_alloc ?_ _)); exact BK149.out), (by (with_reducible repeat (first | refine blk_drewN ?_ _ | refine blk_drew ?_ | refine blk_alloc ?_ _)); exact BK172.out), (by (with_reducible repeat (first | refine blk_drewN ?_ _ | refine blk_drew ?_ | refine blk_alloc ?_ _)); exact BK173.out), GW172.out, GE172.out, NB149_172.out, NB172_149.out, NB173_172.out, NB172_173.out, GW173.out, GE173.out, NB149_173.out, NB173_149.out, (by repeat (first | (with_reducible first | exact HB.out | apply below_alloc | apply pw_below_drewN | apply below_drew1 | refine below_set ?_ GE149.out | refine below_set ?_ GE172.out | refine below_set ?_ GE173.out) | exact HB.out))⟩)
               ·
                skip
                rintro _ w42 ⟨hS_, h0_, h1_⟩
                have n0_ : Aside0 (w42.heap[gb149]? = some (.cells #[.int .u64 a0_0, .int .u64 a0_1, .int .u64 a0_2, .string a0_3, .string a0_4] 29 (0, 0))) := ⟨h0_⟩
                have n1_ : Aside0 (Below w.heap.size w w42) := ⟨h1_⟩
                clear BK149
                clear HB
                clear h0_ h1_
                have BK149 := n0_
                have HB := n1_
                clear n0_ n1_
                have hHeld : w42.cell? ⟨gb149, 0, none⟩ = some (.int .u64 a0_0) ∧ w42.cell? ⟨gb149, 1, none⟩ = some (.int .u64 a0_1) ∧ w42.cell? ⟨gb149, 2, none⟩ = some (.int .u64 a0_2) ∧ w42.cell? ⟨gb149, 3, none⟩ = some (.string a0_3) ∧ w42.cell? ⟨gb149, 4, none⟩ = some (.string a0_4) := hS_
                refine norm_ (a' := ?_) ?_ ?_
                rotate_left
                ·
                 simp only [putAll, Act.put, List.setIfInBounds_toArray, List.set_cons_zero, List.set_cons_succ]
                 rfl
                refine two_ (i := 14) (j := 15) (Ni := some 9) (Nj := some 10) #[true, true, true, true, true, true, true, true, true, true, true, true, true, true, true, false, false, false] #[true, true, true, true, true, true, true, true, true, true, true, true, true, true, false, true, false, false] rfl rfl rfl rfl (two_of HT_.out (by kernel_rfl)) (by decide) (by decide) (fun K hK => ?_) (fun K hK => ?_)
                ·
                 skip
                 refine box_step ?hg (N := 9) ?hd (cs := #[.int .u64 0, .int .u64 0, .int .u64 0, .string (⟨#[]⟩ : ByteArray), .string (⟨#[]⟩ : ByteArray)]) (t := 29) ?hr ?_; (case hd => rfl); (case hg => rfl); (case hr => first | (go_simp; done) | (go_simp; rfl))
                 intro gb172 hg w43 hbox hb
                 have n0_ := Aside0.mk (blk_below (by (with_reducible repeat (first | refine blk_drewN ?_ _ | refine blk_drew ?_ | refine blk_alloc ?_ _)); exact BK149.out) hb)
                 have n1_ := Aside0.mk (below_step (by repeat (first | (with_reducible first | exact HB.out | apply below_alloc | apply pw_below_drewN | apply below_drew1 | refine below_set ?_ GE149.out) | exact HB.out)) hb)
                 have n2_ := Aside0.mk (hbox)
                 have n3_ := Aside0.mk ((by rw [hg]; exact (below_size (by repeat (first | (with_reducible first | exact HB.out | apply below_alloc | apply pw_below_drewN | apply below_drew1 | refine below_set ?_ GE149.out) | exact HB.out))) : w.heap.size ≤ gb172))
                 have n4_ := Aside0.mk ((by rw [hg]; exact (below_size (by repeat (first | (with_reducible first | exact HB.out | apply below_alloc | apply pw_below_drewN | apply below_drew1 | refine below_set ?_ GE149.out) | exact HB.out))) : w.heap.size ≤ gb172))
                 have n5_ := Aside0.mk ((by rw [hg]; exact Nat.ne_of_lt (blk_lt (g := gb149) (o := .cells #[.int .u64 a0_0, .int .u64 a0_1, .int .u64 a0_2, .string a0_3, .string a0_4] 29 (0, 0)) (by (with_reducible repeat (first | refine blk_drewN ?_ _ | refine blk_drew ?_ | refine blk_alloc ?_ _)); exact BK149.out)) : gb149 ≠ gb172))
                 have n6_ := Aside0.mk ((by rw [hg]; exact Nat.ne_of_gt (blk_lt (g := gb149) (o := .cells #[.int .u64 a0_0, .int .u64 a0_1, .int .u64 a0_2, .string a0_3, .string a0_4] 29 (0, 0)) (by (with_reducible repeat (first | refine blk_drewN ?_ _ | refine blk_drew ?_ | refine blk_alloc ?_ _)); exact BK149.out)) : gb172 ≠ gb149))
                 clear BK149
                 clear HB
                 have BK149 := n0_
                 have HB := n1_
                 have BK172 := n2_
                 have GW172 := n3_
                 have GE172 := n4_
                 have NB149_172 := n5_
                 have NB172_149 := n6_
                 clear n0_ n1_ n2_ n3_ n4_ n5_ n6_
                 clear hb hbox hg
                 refine hK.out _ _ ⟨(blk_cell BK149.out 0).trans rfl, (blk_cell BK149.out 1).trans rfl, (blk_cell BK149.out 2).trans rfl, (blk_cell BK149.out 3).trans rfl, (blk_cell BK149.out 4).trans rfl⟩ (fun hHeld => ?_)
                 clear hK K
                 refine norm_ (a' := ?_) ?_ ?_
                 rotate_left
                 ·
                  show Act.put _ (some 9) _ = _
                  simp only [Act.put, List.setIfInBounds_toArray, List.set_cons_zero, List.set_cons_succ, i64_w, i32_w]
                  rfl
                 exact norm_ (by first | (simp only [putAll, Act.put, List.setIfInBounds_toArray, List.set_cons_zero, List.set_cons_succ]; done) | (simp only [putAll, Act.put, List.setIfInBounds_toArray, List.set_cons_zero, List.set_cons_succ]; rfl)) (hJ4_6_11_13_14 (gb172) _ ⟨hHeld, (by (with_reducible repeat (first | refine blk_drewN ?_ _ | refine blk_drew ?_ | refine blk_alloc ?_ _)); exact BK149.out), (by (with_reducible repeat (first | refine blk_drewN ?_ _ | refine blk_drew ?_ | refine blk_alloc ?_ _)); exact BK172.out), GW172.out, GE172.out, NB149_172.out, NB172_149.out, (by repeat (first | (with_reducible first | exact HB.out | apply below_alloc | apply pw_below_drewN | apply below_drew1 | refine below_set ?_ GE149.out | refine below_set ?_ GE172.out) | exact HB.out))⟩)
                ·
                 skip
                 refine box_step ?hg (N := 10) ?hd (cs := #[.int .u64 0, .int .u64 0, .int .u64 0, .string (⟨#[]⟩ : ByteArray), .string (⟨#[]⟩ : ByteArray)]) (t := 29) ?hr ?_; (case hd => rfl); (case hg => rfl); (case hr => first | (go_simp; done) | (go_simp; rfl))
                 intro gb173 hg w43 hbox hb
                 have n0_ := Aside0.mk (blk_below (by (with_reducible repeat (first | refine blk_drewN ?_ _ | refine blk_drew ?_ | refine blk_alloc ?_ _)); exact BK149.out) hb)
                 have n1_ := Aside0.mk (below_step (by repeat (first | (with_reducible first | exact HB.out | apply below_alloc | apply pw_below_drewN | apply below_drew1 | refine below_set ?_ GE149.out) | exact HB.out)) hb)
                 have n2_ := Aside0.mk (hbox)
                 have n3_ := Aside0.mk ((by rw [hg]; exact (below_size (by repeat (first | (with_reducible first | exact HB.out | apply below_alloc | apply pw_below_drewN | apply below_drew1 | refine below_set ?_ GE149.out) | exact HB.out))) : w.heap.size ≤ gb173))
                 have n4_ := Aside0.mk ((by rw [hg]; exact (below_size (by repeat (first | (with_reducible first | exact HB.out | apply below_alloc | apply pw_below_drewN | apply below_drew1 | refine below_set ?_ GE149.out) | exact HB.out))) : w.heap.size ≤ gb173))
                 have n5_ := Aside0.mk ((by rw [hg]; exact Nat.ne_of_lt (blk_lt (g := gb149) (o := .cells #[.int .u64 a0_0, .int .u64 a0_1, .int .u64 a0_2, .string a0_3, .string a0_4] 29 (0, 0)) (by (with_reducible repeat (first | refine blk_drewN ?_ _ | refine blk_drew ?_ | refine blk_alloc ?_ _)); exact BK149.out)) : gb149 ≠ gb173))
                 have n6_ := Aside0.mk ((by rw [hg]; exact Nat.ne_of_gt (blk_lt (g := gb149) (o := .cells #[.int .u64 a0_0, .int .u64 a0_1, .int .u64 a0_2, .string a0_3, .string a0_4] 29 (0, 0)) (by (with_reducible repeat (first | refine blk_drewN ?_ _ | refine blk_drew ?_ | refine blk_alloc ?_ _)); exact BK149.out)) : gb173 ≠ gb149))
                 clear BK149
                 clear HB
                 have BK149 := n0_
                 have HB := n1_
                 have BK173 := n2_
                 have GW173 := n3_
                 have GE173 := n4_
                 have NB149_173 := n5_
                 have NB173_149 := n6_
                 clear n0_ n1_ n2_ n3_ n4_ n5_ n6_
                 clear hb hbox hg
                 refine hK.out _ _ ⟨(blk_cell BK149.out 0).trans rfl, (blk_cell BK149.out 1).trans rfl, (blk_cell BK149.out 2).trans rfl, (blk_cell BK149.out 3).trans rfl, (blk_cell BK149.out 4).trans rfl⟩ (fun hHeld => ?_)
                 clear hK K
                 refine norm_ (a' := ?_) ?_ ?_
                 rotate_left
                 ·
                  show Act.put _ (some 10) _ = _
                  simp only [Act.put, List.setIfInBounds_toArray, List.set_cons_zero, List.set_cons_succ, i64_w, i32_w]
                  rfl
                 exact norm_ (by first | (simp only [putAll, Act.put, List.setIfInBounds_toArray, List.set_cons_zero, List.set_cons_succ]; done) | (simp only [putAll, Act.put, List.setIfInBounds_toArray, List.set_cons_zero, List.set_cons_succ]; rfl)) (hJ4_6_11_13_15 (gb173) _ ⟨hHeld, (by (with_reducible repeat (first | refine blk_drewN ?_ _ | refine blk_drew ?_ | refine blk_alloc ?_ _)); exact BK149.out), (by (with_reducible repeat (first | refine blk_drewN ?_ _ | refine blk_drew ?_ | refine blk_alloc ?_ _)); exact BK173.out), GW173.out, GE173.out, NB149_173.out, NB173_149.out, (by repeat (first | (with_reducible first | exact HB.out | apply below_alloc | apply pw_below_drewN | apply below_drew1 | refine below_set ?_ GE149.out | refine below_set ?_ GE173.out) | exact HB.out))⟩)
              ·
               skip
               rintro ⟨gb172, gb173⟩ w43 ⟨hS_, h0_, h1_, h2_, h3_, h4_, h5_, h6_, h7_, h8_, h9_, h10_, h11_, h12_, h13_⟩
               have n0_ : Aside0 (w43.heap[gb149]? = some (.cells #[.int .u64 a0_0, .int .u64 a0_1, .int .u64 a0_2, .string a0_3, .string a0_4] 29 (0, 0))) := ⟨h0_⟩
               have n1_ : Aside0 (w43.heap[gb172]? = some (.cells #[.int .u64 0, .int .u64 0, .int .u64 0, .string (⟨#[]⟩ : ByteArray), .string (⟨#[]⟩ : ByteArray)] 29 (0, 0))) := ⟨h1_⟩
               have n2_ : Aside0 (w43.heap[gb173]? = some (.cells #[.int .u64 0, .int .u64 0, .int .u64 0, .string (⟨#[]⟩ : ByteArray), .string (⟨#[]⟩ : ByteArray)] 29 (0, 0))) := ⟨h2_⟩
               have n3_ : Aside0 (w.heap.size ≤ gb172) := ⟨h3_⟩
               have n4_ : Aside0 (w.heap.size ≤ gb172) := ⟨h4_⟩
               have n5_ : Aside0 (gb149 ≠ gb172) := ⟨h5_⟩
               have n6_ : Aside0 (gb172 ≠ gb149) := ⟨h6_⟩
               have n7_ : Aside0 (gb173 ≠ gb172) := ⟨h7_⟩
               have n8_ : Aside0 (gb172 ≠ gb173) := ⟨h8_⟩
               have n9_ : Aside0 (w.heap.size ≤ gb173) := ⟨h9_⟩
               have n10_ : Aside0 (w.heap.size ≤ gb173) := ⟨h10_⟩
               have n11_ : Aside0 (gb149 ≠ gb173) := ⟨h11_⟩
               have n12_ : Aside0 (gb173 ≠ gb149) := ⟨h12_⟩
               have n13_ : Aside0 (Below w.heap.size w w43) := ⟨h13_⟩
               clear BK149
               clear HB
               clear h0_ h1_ h2_ h3_ h4_ h5_ h6_ h7_ h8_ h9_ h10_ h11_ h12_ h13_
               have BK149 := n0_
               have BK172 := n1_
               have BK173 := n2_
               have GW172 := n3_
               have GE172 := n4_
               have NB149_172 := n5_
               have NB172_149 := n6_
               have NB173_172 := n7_
               have NB172_173 := n8_
               have GW173 := n9_
               have GE173 := n10_
               have NB149_173 := n11_
               have NB173_149 := n12_
               have HB := n13_
               clear n0_ n1_ n2_ n3_ n4_ n5_ n6_ n7_ n8_ n9_ n10_ n11_ n12_ n13_
               have hHeld : w43.cell? ⟨gb149, 0, none⟩ = some (.int .u64 a0_0) ∧ w43.cell? ⟨gb149, 1, none⟩ = some (.int .u64 a0_1) ∧ w43.cell? ⟨gb149, 2, none⟩ = some (.int .u64 a0_2) ∧ w43.cell? ⟨gb149, 3, none⟩ = some (.string a0_3) ∧ w43.cell? ⟨gb149, 4, none⟩ = some (.string a0_4) := hS_
               refine norm_ (a' := ?_) ?_ ?_
               rotate_left
               ·
                simp only [putAll, Act.put, List.setIfInBounds_toArray, List.set_cons_zero, List.set_cons_succ]
                rfl
               refine one_ (i := 13) (N := some 50) #[true, true, true, true, true, true, true, true, true, true, true, true, true, true, true, true, false, false] rfl rfl (one_of HT_.out (by kernel_rfl)) (by decide) (fun K hK => ?_)
               refine goes_ Tryd.func29 (by kernel_rfl) rfl #[.agg #[.int .u64 a0_0, .int .u64 a0_1, .int .u64 a0_2, .string a0_3, .string a0_4], .string ((a1 ++ (⟨#[46]⟩ : ByteArray)) ++ t166)] (by rfl) rfl rfl (by (try simp only [List.map_toArray, List.map_cons, List.map_nil]); first | done | rfl | (simp only [List.length_drop, List.length_take]; rfl)) ?_
               with_reducible refine (laws_svPre.calls a0_0 a0_1 a0_2 a0_3 a0_4 ((a1 ++ (⟨#[46]⟩ : ByteArray)) ++ t166) t167 t168 t169 t170 t171 _ A33.out).mono ?_
               rintro e w44 ⟨rfl, hb⟩
               refine ⟨_, rfl, ?_⟩
               have n0_ := Aside0.mk (blk_below (by (with_reducible repeat (first | refine blk_drewN ?_ _ | refine blk_drew ?_ | refine blk_alloc ?_ _)); exact BK149.out) hb)
               have n1_ := Aside0.mk (blk_below (g := gb172) (o := .cells #[.int .u64 0, .int .u64 0, .int .u64 0, .string (⟨#[]⟩ : ByteArray), .string (⟨#[]⟩ : ByteArray)] 29 (0, 0)) (by (with_reducible repeat (first | refine blk_drewN ?_ _ | refine blk_drew ?_ | refine blk_alloc ?_ _)); exact BK172.out) hb)
               have n2_ := Aside0.mk (blk_below (g := gb173) (o := .cells #[.int .u64 0, .int .u64 0, .int .u64 0, .string (⟨#[]⟩ : ByteArray), .string (⟨#[]⟩ : ByteArray)] 29 (0, 0)) (by (with_reducible repeat (first | refine blk_drewN ?_ _ | refine blk_drew ?_ | refine blk_alloc ?_ _)); exact BK173.out) hb)
               have n3_ := Aside0.mk (below_step (by repeat (first | (with_reducible first | exact HB.out | apply below_alloc | apply pw_below_drewN | apply below_drew1 | refine below_set ?_ GE149.out | refine below_set ?_ GE172.out | refine below_set ?_ GE173.out) | exact HB.out)) hb)
               clear BK149
               clear BK172
               clear BK173
               clear HB
               have BK149 := n0_
               have BK172 := n1_
               have BK173 := n2_
               have HB := n3_
               clear n0_ n1_ n2_ n3_
               (try clear hb)
               (try clear hb2)
               (try clear hk)
               (try clear hi)
               refine hK.out _ _ ⟨(blk_cell BK149.out 0).trans rfl, (blk_cell BK149.out 1).trans rfl, (blk_cell BK149.out 2).trans rfl, (blk_cell BK149.out 3).trans rfl, (blk_cell BK149.out 4).trans rfl⟩ (fun hHeld => ?_)
               clear hK K
               refine norm_ (a' := ?_) ?_ ?_
               rotate_left
               ·
                show Act.put _ (some 50) _ = _
                simp only [Act.put, List.setIfInBounds_toArray, List.set_cons_zero, List.set_cons_succ, i64_w, i32_w]
                rfl
               exact norm_ (by first | (simp only [putAll, Act.put, List.setIfInBounds_toArray, List.set_cons_zero, List.set_cons_succ]; done) | (simp only [putAll, Act.put, List.setIfInBounds_toArray, List.set_cons_zero, List.set_cons_succ]; rfl)) (hJ4_6_11_13_14_15 (gb172, gb173) _ ⟨hHeld, (by (with_reducible repeat (first | refine blk_drewN ?_ _ | refine blk_drew ?_ | refine blk_alloc ?_ _)); exact BK149.out), (by (with_reducible repeat (first | refine blk_drewN ?_ _ | refine blk_drew ?_ | refine blk_alloc ?_ _)); exact BK172.out), (by (with_reducible repeat (first | refine blk_drewN ?_ _ | refine blk_drew ?_ | refine blk_alloc ?_ _)); exact BK173.out), GW172.out, GE172.out, NB149_172.out, NB172_149.out, NB173_172.out, NB172_173.out, GW173.out, GE173.out, NB149_173.out, NB173_149.out, (by repeat (first | (with_reducible first | exact HB.out | apply below_alloc | apply pw_below_drewN | apply below_drew1 | refine below_set ?_ GE149.out | refine below_set ?_ GE172.out | refine below_set ?_ GE173.out) | exact HB.out))⟩)
             ·
              skip
              rintro gb173 w43 ⟨hS_, h0_, h1_, h2_, h3_, h4_, h5_, h6_⟩
              have n0_ : Aside0 (w43.heap[gb149]? = some (.cells #[.int .u64 a0_0, .int .u64 a0_1, .int .u64 a0_2, .string a0_3, .string a0_4] 29 (0, 0))) := ⟨h0_⟩
              have n1_ : Aside0 (w43.heap[gb173]? = some (.cells #[.int .u64 0, .int .u64 0, .int .u64 0, .string (⟨#[]⟩ : ByteArray), .string (⟨#[]⟩ : ByteArray)] 29 (0, 0))) := ⟨h1_⟩
              have n2_ : Aside0 (w.heap.size ≤ gb173) := ⟨h2_⟩
              have n3_ : Aside0 (w.heap.size ≤ gb173) := ⟨h3_⟩
              have n4_ : Aside0 (gb149 ≠ gb173) := ⟨h4_⟩
              have n5_ : Aside0 (gb173 ≠ gb149) := ⟨h5_⟩
              have n6_ : Aside0 (Below w.heap.size w w43) := ⟨h6_⟩
              clear BK149
              clear HB
              clear h0_ h1_ h2_ h3_ h4_ h5_ h6_
              have BK149 := n0_
              have BK173 := n1_
              have GW173 := n2_
              have GE173 := n3_
              have NB149_173 := n4_
              have NB173_149 := n5_
              have HB := n6_
              clear n0_ n1_ n2_ n3_ n4_ n5_ n6_
              have hHeld : w43.cell? ⟨gb149, 0, none⟩ = some (.int .u64 a0_0) ∧ w43.cell? ⟨gb149, 1, none⟩ = some (.int .u64 a0_1) ∧ w43.cell? ⟨gb149, 2, none⟩ = some (.int .u64 a0_2) ∧ w43.cell? ⟨gb149, 3, none⟩ = some (.string a0_3) ∧ w43.cell? ⟨gb149, 4, none⟩ = some (.string a0_4) := hS_
              refine norm_ (a' := ?_) ?_ ?_
              rotate_left
              ·
               simp only [putAll, Act.put, List.setIfInBounds_toArray, List.set_cons_zero, List.set_cons_succ]
               rfl
              refine one_ (i := 14) (N := some 9) #[true, true, true, true, true, true, true, true, true, true, true, true, true, true, true, true, false, false] rfl rfl (one_of HT_.out (by kernel_rfl)) (by decide) (fun K hK => ?_)
              refine box_step ?hg (N := 9) ?hd (cs := #[.int .u64 0, .int .u64 0, .int .u64 0, .string (⟨#[]⟩ : ByteArray), .string (⟨#[]⟩ : ByteArray)]) (t := 29) ?hr ?_; (case hd => rfl); (case hg => rfl); (case hr => first | (go_simp; done) | (go_simp; rfl))
              intro gb172 hg w44 hbox hb
              have n0_ := Aside0.mk (blk_below (by (with_reducible repeat (first | refine blk_drewN ?_ _ | refine blk_drew ?_ | refine blk_alloc ?_ _)); exact BK149.out) hb)
              have n1_ := Aside0.mk (blk_below (g := gb173) (o := .cells #[.int .u64 0, .int .u64 0, .int .u64 0, .string (⟨#[]⟩ : ByteArray), .string (⟨#[]⟩ : ByteArray)] 29 (0, 0)) (by (with_reducible repeat (first | refine blk_drewN ?_ _ | refine blk_drew ?_ | refine blk_alloc ?_ _)); exact BK173.out) hb)
              have n2_ := Aside0.mk (below_step (by repeat (first | (with_reducible first | exact HB.out | apply below_alloc | apply pw_below_drewN | apply below_drew1 | refine below_set ?_ GE149.out | refine below_set ?_ GE173.out) | exact HB.out)) hb)
              have n3_ := Aside0.mk (hbox)
              have n4_ := Aside0.mk ((by rw [hg]; exact (below_size (by repeat (first | (with_reducible first | exact HB.out | apply below_alloc | apply pw_below_drewN | apply below_drew1 | refine below_set ?_ GE149.out | refine below_set ?_ GE173.out) | exact HB.out))) : w.heap.size ≤ gb172))
              have n5_ := Aside0.mk ((by rw [hg]; exact (below_size (by repeat (first | (with_reducible first | exact HB.out | apply below_alloc | apply pw_below_drewN | apply below_drew1 | refine below_set ?_ GE149.out | refine below_set ?_ GE173.out) | exact HB.out))) : w.heap.size ≤ gb172))
              have n6_ := Aside0.mk ((by rw [hg]; exact Nat.ne_of_lt (blk_lt (g := gb149) (o := .cells #[.int .u64 a0_0, .int .u64 a0_1, .int .u64 a0_2, .string a0_3, .string a0_4] 29 (0, 0)) (by (with_reducible repeat (first | refine blk_drewN ?_ _ | refine blk_drew ?_ | refine blk_alloc ?_ _)); exact BK149.out)) : gb149 ≠ gb172))
              have n7_ := Aside0.mk ((by rw [hg]; exact Nat.ne_of_gt (blk_lt (g := gb149) (o := .cells #[.int .u64 a0_0, .int .u64 a0_1, .int .u64 a0_2, .string a0_3, .string a0_4] 29 (0, 0)) (by (with_reducible repeat (first | refine blk_drewN ?_ _ | refine blk_drew ?_ | refine blk_alloc ?_ _)); exact BK149.out)) : gb172 ≠ gb149))
              have n8_ := Aside0.mk ((by rw [hg]; exact Nat.ne_of_lt (blk_lt (g := gb173) (o := .cells #[.int .u64 0, .int .u64 0, .int .u64 0, .string (⟨#[]⟩ : ByteArray), .string (⟨#[]⟩ : ByteArray)] 29 (0, 0)) (by (with_reducible repeat (first | refine blk_drewN ?_ _ | refine blk_drew ?_ | refine blk_alloc ?_ _)); exact BK173.out)) : gb173 ≠ gb172))
              have n9_ := Aside0.mk ((by rw [hg]; exact Nat.ne_of_gt (blk_lt (g := gb173) (o := .cells #[.int .u64 0, .int .u64 0, .int .u64 0, .string (⟨#[]⟩ : ByteArray), .string (⟨#[]⟩ : ByteArray)] 29 (0, 0)) (by (with_reducible repeat (first | refine blk_drewN ?_ _ | refine blk_drew ?_ | refine blk_alloc ?_ _)); exact BK173.out)) : gb172 ≠ gb173))
              clear BK149
              clear BK173
              clear HB
              have BK149 := n0_
              have BK173 := n1_
              have HB := n2_
              have BK172 := n3_
              have GW172 := n4_
              have GE172 := n5_
              have NB149_172 := n6_
              have NB172_149 := n7_
              have NB173_172 := n8_
              have NB172_173 := n9_
              clear n0_ n1_ n2_ n3_ n4_ n5_ n6_ n7_ n8_ n9_
              clear hb hbox hg
              refine hK.out _ _ ⟨(blk_cell BK149.out 0).trans rfl, (blk_cell BK149.out 1).trans rfl, (blk_cell BK149.out 2).trans rfl, (blk_cell BK149.out 3).trans rfl, (blk_cell BK149.out 4).trans rfl⟩ (fun hHeld => ?_)
              clear hK K
              refine norm_ (a' := ?_) ?_ ?_
              rotate_left
              ·
               show Act.put _ (some 9) _ = _
               simp only [Act.put, List.setIfInBounds_toArray, List.set_cons_zero, List.set_cons_succ, i64_w, i32_w]
               rfl
              exact norm_ (by first | (simp only [putAll, Act.put, List.setIfInBounds_toArray, List.set_cons_zero, List.set_cons_succ]; done) | (simp only [putAll, Act.put, List.setIfInBounds_toArray, List.set_cons_zero, List.set_cons_succ]; rfl)) (hJ4_6_11_13_14_15 (gb172, gb173) _ ⟨hHeld, (by (with_reducible repeat (first | refine blk_drewN ?_ _ | refine blk_drew ?_ | refine blk_alloc ?_ _)); exact BK149.out), (by (with_reducible repeat (first | refine blk_drewN ?_ _ | refine blk_drew ?_ | refine blk_alloc ?_ _)); exact BK172.out), (by (with_reducible repeat (first | refine blk_drewN ?_ _ | refine blk_drew ?_ | refine blk_alloc ?_ _)); exact BK173.out), GW172.out, GE172.out, NB149_172.out, NB172_149.out, NB173_172.out, NB172_173.out, GW173.out, GE173.out, NB149_173.out, NB173_149.out, (by repeat (first | (with_reducible first | exact HB.out | apply below_alloc | apply pw_below_drewN | apply below_drew1 | refine below_set ?_ GE149.out | refine below_set ?_ GE173.out | refine below_set ?_ GE172.out) | exact HB.out))⟩)
            ·
             skip
             rintro gb172 w43 ⟨hS_, h0_, h1_, h2_, h3_, h4_, h5_, h6_⟩
             have n0_ : Aside0 (w43.heap[gb149]? = some (.cells #[.int .u64 a0_0, .int .u64 a0_1, .int .u64 a0_2, .string a0_3, .string a0_4] 29 (0, 0))) := ⟨h0_⟩
             have n1_ : Aside0 (w43.heap[gb172]? = some (.cells #[.int .u64 0, .int .u64 0, .int .u64 0, .string (⟨#[]⟩ : ByteArray), .string (⟨#[]⟩ : ByteArray)] 29 (0, 0))) := ⟨h1_⟩
             have n2_ : Aside0 (w.heap.size ≤ gb172) := ⟨h2_⟩
             have n3_ : Aside0 (w.heap.size ≤ gb172) := ⟨h3_⟩
             have n4_ : Aside0 (gb149 ≠ gb172) := ⟨h4_⟩
             have n5_ : Aside0 (gb172 ≠ gb149) := ⟨h5_⟩
             have n6_ : Aside0 (Below w.heap.size w w43) := ⟨h6_⟩
             clear BK149
             clear HB
             clear h0_ h1_ h2_ h3_ h4_ h5_ h6_
             have BK149 := n0_
             have BK172 := n1_
             have GW172 := n2_
             have GE172 := n3_
             have NB149_172 := n4_
             have NB172_149 := n5_
             have HB := n6_
             clear n0_ n1_ n2_ n3_ n4_ n5_ n6_
             have hHeld : w43.cell? ⟨gb149, 0, none⟩ = some (.int .u64 a0_0) ∧ w43.cell? ⟨gb149, 1, none⟩ = some (.int .u64 a0_1) ∧ w43.cell? ⟨gb149, 2, none⟩ = some (.int .u64 a0_2) ∧ w43.cell? ⟨gb149, 3, none⟩ = some (.string a0_3) ∧ w43.cell? ⟨gb149, 4, none⟩ = some (.string a0_4) := hS_
             refine norm_ (a' := ?_) ?_ ?_
             rotate_left
             ·
              simp only [putAll, Act.put, List.setIfInBounds_toArray, List.set_cons_zero, List.set_cons_succ]
              rfl
             refine one_ (i := 15) (N := some 10) #[true, true, true, true, true, true, true, true, true, true, true, true, true, true, true, true, false, false] rfl rfl (one_of HT_.out (by kernel_rfl)) (by decide) (fun K hK => ?_)
             refine box_step ?hg (N := 10) ?hd (cs := #[.int .u64 0, .int .u64 0, .int .u64 0, .string (⟨#[]⟩ : ByteArray), .string (⟨#[]⟩ : ByteArray)]) (t := 29) ?hr ?_; (case hd => rfl); (case hg => rfl); (case hr => first | (go_simp; done) | (go_simp; rfl))
             intro gb173 hg w44 hbox hb
             have n0_ := Aside0.mk (blk_below (by (with_reducible repeat (first | refine blk_drewN ?_ _ | refine blk_drew ?_ | refine blk_alloc ?_ _)); exact BK149.out) hb)
             have n1_ := Aside0.mk (blk_below (g := gb172) (o := .cells #[.int .u64 0, .int .u64 0, .int .u64 0, .string (⟨#[]⟩ : ByteArray), .string (⟨#[]⟩ : ByteArray)] 29 (0, 0)) (by (with_reducible repeat (first | refine blk_drewN ?_ _ | refine blk_drew ?_ | refine blk_alloc ?_ _)); exact BK172.out) hb)
             have n2_ := Aside0.mk (below_step (by repeat (first | (with_reducible first | exact HB.out | apply below_alloc | apply pw_below_drewN | apply below_drew1 | refine below_set ?_ GE149.out | refine below_set ?_ GE172.out) | exact HB.out)) hb)
             have n3_ := Aside0.mk (hbox)
             have n4_ := Aside0.mk ((by rw [hg]; exact (below_size (by repeat (first | (with_reducible first | exact HB.out | apply below_alloc | apply pw_below_drewN | apply below_drew1 | refine below_set ?_ GE149.out | refine below_set ?_ GE172.out) | exact HB.out))) : w.heap.size ≤ gb173))
             have n5_ := Aside0.mk ((by rw [hg]; exact (below_size (by repeat (first | (with_reducible first | exact HB.out | apply below_alloc | apply pw_below_drewN | apply below_drew1 | refine below_set ?_ GE149.out | refine below_set ?_ GE172.out) | exact HB.out))) : w.heap.size ≤ gb173))
             have n6_ := Aside0.mk ((by rw [hg]; exact Nat.ne_of_lt (blk_lt (g := gb149) (o := .cells #[.int .u64 a0_0, .int .u64 a0_1, .int .u64 a0_2, .string a0_3, .string a0_4] 29 (0, 0)) (by (with_reducible repeat (first | refine blk_drewN ?_ _ | refine blk_drew ?_ | refine blk_alloc ?_ _)); exact BK149.out)) : gb149 ≠ gb173))
             have n7_ := Aside0.mk ((by rw [hg]; exact Nat.ne_of_gt (blk_lt (g := gb149) (o := .cells #[.int .u64 a0_0, .int .u64 a0_1, .int .u64 a0_2, .string a0_3, .string a0_4] 29 (0, 0)) (by (with_reducible repeat (first | refine blk_drewN ?_ _ | refine blk_drew ?_ | refine blk_alloc ?_ _)); exact BK149.out)) : gb173 ≠ gb149))
             have n8_ := Aside0.mk ((by rw [hg]; exact Nat.ne_of_lt (blk_lt (g := gb172) (o := .cells #[.int .u64 0, .int .u64 0, .int .u64 0, .string (⟨#[]⟩ : ByteArray), .string (⟨#[]⟩ : ByteArray)] 29 (0, 0)) (by (with_reducible repeat (first | refine blk_drewN ?_ _ | refine blk_drew ?_ | refine blk_alloc ?_ _)); exact BK172.out)) : gb172 ≠ gb173))
             have n9_ := Aside0.mk ((by rw [hg]; exact Nat.ne_of_gt (blk_lt (g := gb172) (o := .cells #[.int .u64 0, .int .u64 0, .int .u64 0, .string (⟨#[]⟩ : ByteArray), .string (⟨#[]⟩ : ByteArray)] 29 (0, 0)) (by (with_reducible repeat (first | refine blk_drewN ?_ _ | refine blk_drew ?_ | refine blk_alloc ?_ _)); exact BK172.out)) : gb173 ≠ gb172))
             clear BK149
             clear BK172
             clear HB
             have BK149 := n0_
             have BK172 := n1_
             have HB := n2_
             have BK173 := n3_
             have GW173 := n4_
             have GE173 := n5_
             have NB149_173 := n6_
             have NB173_149 := n7_
             have NB172_173 := n8_
             have NB173_172 := n9_
             clear n0_ n1_ n2_ n3_ n4_ n5_ n6_ n7_ n8_ n9_
             clear hb hbox hg
             refine hK.out _ _ ⟨(blk_cell BK149.out 0).trans rfl, (blk_cell BK149.out 1).trans rfl, (blk_cell BK149.out 2).trans rfl, (blk_cell BK149.out 3).trans rfl, (blk_cell BK149.out 4).trans rfl⟩ (fun hHeld => ?_)
             clear hK K
             refine norm_ (a' := ?_) ?_ ?_
             rotate_left
             ·
              show Act.put _ (some 10) _ = _
              simp only [Act.put, List.setIfInBounds_toArray, List.set_cons_zero, List.set_cons_succ, i64_w, i32_w]
              rfl
             exact norm_ (by first | (simp only [putAll, Act.put, List.setIfInBounds_toArray, List.set_cons_zero, List.set_cons_succ]; done) | (simp only [putAll, Act.put, List.setIfInBounds_toArray, List.set_cons_zero, List.set_cons_succ]; rfl)) (hJ4_6_11_13_14_15 (gb172, gb173) _ ⟨hHeld, (by (with_reducible repeat (first | refine blk_drewN ?_ _ | refine blk_drew ?_ | refine blk_alloc ?_ _)); exact BK149.out), (by (with_reducible repeat (first | refine blk_drewN ?_ _ | refine blk_drew ?_ | refine blk_alloc ?_ _)); exact BK172.out), (by (with_reducible repeat (first | refine blk_drewN ?_ _ | refine blk_drew ?_ | refine blk_alloc ?_ _)); exact BK173.out), GW172.out, GE172.out, NB149_172.out, NB172_149.out, NB173_172.out, NB172_173.out, GW173.out, GE173.out, NB149_173.out, NB173_149.out, (by repeat (first | (with_reducible first | exact HB.out | apply below_alloc | apply pw_below_drewN | apply below_drew1 | refine below_set ?_ GE149.out | refine below_set ?_ GE172.out | refine below_set ?_ GE173.out) | exact HB.out))⟩)
           rintro ⟨gb172, gb173⟩ w44 ⟨hS_, h0_, h1_, h2_, h3_, h4_, h5_, h6_, h7_, h8_, h9_, h10_, h11_, h12_, h13_⟩
           have n0_ : Aside0 (w44.heap[gb149]? = some (.cells #[.int .u64 a0_0, .int .u64 a0_1, .int .u64 a0_2, .string a0_3, .string a0_4] 29 (0, 0))) := ⟨h0_⟩
           have n1_ : Aside0 (w44.heap[gb172]? = some (.cells #[.int .u64 0, .int .u64 0, .int .u64 0, .string (⟨#[]⟩ : ByteArray), .string (⟨#[]⟩ : ByteArray)] 29 (0, 0))) := ⟨h1_⟩
           have n2_ : Aside0 (w44.heap[gb173]? = some (.cells #[.int .u64 0, .int .u64 0, .int .u64 0, .string (⟨#[]⟩ : ByteArray), .string (⟨#[]⟩ : ByteArray)] 29 (0, 0))) := ⟨h2_⟩
           have n3_ : Aside0 (w.heap.size ≤ gb172) := ⟨h3_⟩
           have n4_ : Aside0 (w.heap.size ≤ gb172) := ⟨h4_⟩
           have n5_ : Aside0 (gb149 ≠ gb172) := ⟨h5_⟩
           have n6_ : Aside0 (gb172 ≠ gb149) := ⟨h6_⟩
           have n7_ : Aside0 (gb173 ≠ gb172) := ⟨h7_⟩
           have n8_ : Aside0 (gb172 ≠ gb173) := ⟨h8_⟩
           have n9_ : Aside0 (w.heap.size ≤ gb173) := ⟨h9_⟩
           have n10_ : Aside0 (w.heap.size ≤ gb173) := ⟨h10_⟩
           have n11_ : Aside0 (gb149 ≠ gb173) := ⟨h11_⟩
           have n12_ : Aside0 (gb173 ≠ gb149) := ⟨h12_⟩
           have n13_ : Aside0 (Below w.heap.size w w44) := ⟨h13_⟩
           clear BK149
           clear HB
           clear h0_ h1_ h2_ h3_ h4_ h5_ h6_ h7_ h8_ h9_ h10_ h11_ h12_ h13_
           have BK149 := n0_
           have BK172 := n1_
           have BK173 := n2_
           have GW172 := n3_
           have GE172 := n4_
           have NB149_172 := n5_
           have NB172_149 := n6_
           have NB173_172 := n7_
           have NB172_173 := n8_
           have GW173 := n9_
           have GE173 := n10_
           have NB149_173 := n11_
           have NB173_149 := n12_
           have HB := n13_
           clear n0_ n1_ n2_ n3_ n4_ n5_ n6_ n7_ n8_ n9_ n10_ n11_ n12_ n13_
           have hHeld : w44.cell? ⟨gb149, 0, none⟩ = some (.int .u64 a0_0) ∧ w44.cell? ⟨gb149, 1, none⟩ = some (.int .u64 a0_1) ∧ w44.cell? ⟨gb149, 2, none⟩ = some (.int .u64 a0_2) ∧ w44.cell? ⟨gb149, 3, none⟩ = some (.string a0_3) ∧ w44.cell? ⟨gb149, 4, none⟩ = some (.string a0_4) := hS_
           refine norm_ (a' := ?_) ?_ ?_
           rotate_left
           ·
            simp only [putAll, Act.put, List.setIfInBounds_toArray, List.set_cons_zero, List.set_cons_succ]
            rfl
           refine one_ (i := 16) (N := none) #[true, true, true, true, true, true, true, true, true, true, true, true, true, true, true, true, true, false] rfl rfl (one_of HT_.out (by kernel_rfl)) (by decide) (fun K hK => ?_)
           have hs45 : w44.cell? ⟨gb172, 0, none⟩ = some (.int .u64 0) := (blk_cell BK172.out 0).trans rfl
           have hfs45 := blk_frozen BK172.out 0
           have hns45_0 := NB149_172.out
           have hns45_2 := NB173_172.out
           have hms45_0 := NB172_149.out
           have hms45_2 := NB172_173.out
           have hs46 : w44.cell? ⟨gb172, 1, none⟩ = some (.int .u64 0) := (blk_cell BK172.out 1).trans rfl
           have hfs46 := blk_frozen BK172.out 1
           have hns46_0 := NB149_172.out
           have hns46_2 := NB173_172.out
           have hms46_0 := NB172_149.out
           have hms46_2 := NB172_173.out
           have hs47 : w44.cell? ⟨gb172, 2, none⟩ = some (.int .u64 0) := (blk_cell BK172.out 2).trans rfl
           have hfs47 := blk_frozen BK172.out 2
           have hns47_0 := NB149_172.out
           have hns47_2 := NB173_172.out
           have hms47_0 := NB172_149.out
           have hms47_2 := NB172_173.out
           have hs48 : w44.cell? ⟨gb172, 3, none⟩ = some (.string (⟨#[]⟩ : ByteArray)) := (blk_cell BK172.out 3).trans rfl
           have hfs48 := blk_frozen BK172.out 3
           have hns48_0 := NB149_172.out
           have hns48_2 := NB173_172.out
           have hms48_0 := NB172_149.out
           have hms48_2 := NB172_173.out
           have hs49 : w44.cell? ⟨gb172, 4, none⟩ = some (.string (⟨#[]⟩ : ByteArray)) := (blk_cell BK172.out 4).trans rfl
           have hfs49 := blk_frozen BK172.out 4
           have hns49_0 := NB149_172.out
           have hns49_2 := NB173_172.out
           have hms49_0 := NB172_149.out
           have hms49_2 := NB172_173.out
           refine skip_ (w1 := ?_) (by rfl) rfl ?_ ?_
           rotate_left
           ·
            go_simp
            rfl
           refine hK.out _ _ ⟨((cell_far (p := ⟨gb172, _, none⟩) NB149_172.out _).trans (((cell_far (p := ⟨gb172, _, none⟩) NB149_172.out _).trans (((cell_far (p := ⟨gb172, _, none⟩) NB149_172.out _).trans (((cell_far (p := ⟨gb172, _, none⟩) NB149_172.out _).trans (((cell_far (p := ⟨gb172, _, none⟩) NB149_172.out _).trans (hHeld.1)))))))))), ((cell_far (p := ⟨gb172, _, none⟩) NB149_172.out _).trans (((cell_far (p := ⟨gb172, _, none⟩) NB149_172.out _).trans (((cell_far (p := ⟨gb172, _, none⟩) NB149_172.out _).trans (((cell_far (p := ⟨gb172, _, none⟩) NB149_172.out _).trans (((cell_far (p := ⟨gb172, _, none⟩) NB149_172.out _).trans (hHeld.2.1)))))))))), ((cell_far (p := ⟨gb172, _, none⟩) NB149_172.out _).trans (((cell_far (p := ⟨gb172, _, none⟩) NB149_172.out _).trans (((cell_far (p := ⟨gb172, _, none⟩) NB149_172.out _).trans (((cell_far (p := ⟨gb172, _, none⟩) NB149_172.out _).trans (((cell_far (p := ⟨gb172, _, none⟩) NB149_172.out _).trans (hHeld.2.2.1)))))))))), ((cell_far (p := ⟨gb172, _, none⟩) NB149_172.out _).trans (((cell_far (p := ⟨gb172, _, none⟩) NB149_172.out _).trans (((cell_far (p := ⟨gb172, _, none⟩) NB149_172.out _).trans (((cell_far (p := ⟨gb172, _, none⟩) NB149_172.out _).trans (((cell_far (p := ⟨gb172, _, none⟩) NB149_172.out _).trans (hHeld.2.2.2.1)))))))))), ((cell_far (p := ⟨gb172, _, none⟩) NB149_172.out _).trans (((cell_far (p := ⟨gb172, _, none⟩) NB149_172.out _).trans (((cell_far (p := ⟨gb172, _, none⟩) NB149_172.out _).trans (((cell_far (p := ⟨gb172, _, none⟩) NB149_172.out _).trans (((cell_far (p := ⟨gb172, _, none⟩) NB149_172.out _).trans (hHeld.2.2.2.2))))))))))⟩ (fun hHeld => ?_)
           clear hK K
           refine one_ (i := 17) (N := none) #[true, true, true, true, true, true, true, true, true, true, true, true, true, true, true, true, true, true] rfl rfl (one_of HT_.out (by kernel_rfl)) (by decide) (fun K hK => ?_)
           have hs50 : w44.cell? ⟨gb173, 0, none⟩ = some (.int .u64 0) := (blk_cell BK173.out 0).trans rfl
           have hfs50 := blk_frozen BK173.out 0
           have hns50_0 := NB149_173.out
           have hns50_1 := NB172_173.out
           have hms50_0 := NB173_149.out
           have hms50_1 := NB173_172.out
           have hs51 : w44.cell? ⟨gb173, 1, none⟩ = some (.int .u64 0) := (blk_cell BK173.out 1).trans rfl
           have hfs51 := blk_frozen BK173.out 1
           have hns51_0 := NB149_173.out
           have hns51_1 := NB172_173.out
           have hms51_0 := NB173_149.out
           have hms51_1 := NB173_172.out
           have hs52 : w44.cell? ⟨gb173, 2, none⟩ = some (.int .u64 0) := (blk_cell BK173.out 2).trans rfl
           have hfs52 := blk_frozen BK173.out 2
           have hns52_0 := NB149_173.out
           have hns52_1 := NB172_173.out
           have hms52_0 := NB173_149.out
           have hms52_1 := NB173_172.out
           have hs53 : w44.cell? ⟨gb173, 3, none⟩ = some (.string (⟨#[]⟩ : ByteArray)) := (blk_cell BK173.out 3).trans rfl
           have hfs53 := blk_frozen BK173.out 3
           have hns53_0 := NB149_173.out
           have hns53_1 := NB172_173.out
           have hms53_0 := NB173_149.out
           have hms53_1 := NB173_172.out
           have hs54 : w44.cell? ⟨gb173, 4, none⟩ = some (.string (⟨#[]⟩ : ByteArray)) := (blk_cell BK173.out 4).trans rfl
           have hfs54 := blk_frozen BK173.out 4
           have hns54_0 := NB149_173.out
           have hns54_1 := NB172_173.out
           have hms54_0 := NB173_149.out
           have hms54_1 := NB173_172.out
           refine skip_ (w1 := ?_) (by rfl) rfl ?_ ?_
           rotate_left
           ·
            go_simp
            rfl
           refine hK.out _ _ ⟨((cell_far (p := ⟨gb173, _, none⟩) NB149_173.out _).trans (((cell_far (p := ⟨gb173, _, none⟩) NB149_173.out _).trans (((cell_far (p := ⟨gb173, _, none⟩) NB149_173.out _).trans (((cell_far (p := ⟨gb173, _, none⟩) NB149_173.out _).trans (((cell_far (p := ⟨gb173, _, none⟩) NB149_173.out _).trans (hHeld.1)))))))))), ((cell_far (p := ⟨gb173, _, none⟩) NB149_173.out _).trans (((cell_far (p := ⟨gb173, _, none⟩) NB149_173.out _).trans (((cell_far (p := ⟨gb173, _, none⟩) NB149_173.out _).trans (((cell_far (p := ⟨gb173, _, none⟩) NB149_173.out _).trans (((cell_far (p := ⟨gb173, _, none⟩) NB149_173.out _).trans (hHeld.2.1)))))))))), ((cell_far (p := ⟨gb173, _, none⟩) NB149_173.out _).trans (((cell_far (p := ⟨gb173, _, none⟩) NB149_173.out _).trans (((cell_far (p := ⟨gb173, _, none⟩) NB149_173.out _).trans (((cell_far (p := ⟨gb173, _, none⟩) NB149_173.out _).trans (((cell_far (p := ⟨gb173, _, none⟩) NB149_173.out _).trans (hHeld.2.2.1)))))))))), ((cell_far (p := ⟨gb173, _, none⟩) NB149_173.out _).trans (((cell_far (p := ⟨gb173, _, none⟩) NB149_173.out _).trans (((cell_far (p := ⟨gb173, _, none⟩) NB149_173.out _).trans (((cell_far (p := ⟨gb173, _, none⟩) NB149_173.out _).trans (((cell_far (p := ⟨gb173, _, none⟩) NB149_173.out _).trans (hHeld.2.2.2.1)))))))))), ((cell_far (p := ⟨gb173, _, none⟩) NB149_173.out _).trans (((cell_far (p := ⟨gb173, _, none⟩) NB149_173.out _).trans (((cell_far (p := ⟨gb173, _, none⟩) NB149_173.out _).trans (((cell_far (p := ⟨gb173, _, none⟩) NB149_173.out _).trans (((cell_far (p := ⟨gb173, _, none⟩) NB149_173.out _).trans (hHeld.2.2.2.2))))))))))⟩ (fun hHeld => ?_)
           clear hK K
           refine done_ (done_of HT_.out (by kernel_rfl)) ?_
           refine fin10 (G := fun V => Exit.then _ _ Exit.normal _ V) (.int .u64 t161) (.int .u64 t162) (.int .u64 t163) (.string t164) (.string t165) (.int .u64 t167) (.int .u64 t168) (.int .u64 t169) (.string t170) (.string t171) BK149.out BK172.out BK173.out NB149_172.out NB149_173.out NB172_173.out GE172.out GE173.out HB.out ?_
           intro V hb0 hb1 hb2 hB1
           clear BK149 BK172 BK173 HB
           have BK149 := Aside0.mk hb0
           have BK172 := Aside0.mk hb1
           have BK173 := Aside0.mk hb2
           have HB := Aside0.mk hB1
           clear hb0 hb1 hb2 hB1
           have hp0 : V.cell? ⟨gb172, 0, none⟩ = some (.int .u64 t161) := (blk_cell BK172.out 0).trans rfl
           have hfp0 := blk_frozen BK172.out 0
           have hp1 : V.cell? ⟨gb172, 1, none⟩ = some (.int .u64 t162) := (blk_cell BK172.out 1).trans rfl
           have hfp1 := blk_frozen BK172.out 1
           have hp2 : V.cell? ⟨gb172, 2, none⟩ = some (.int .u64 t163) := (blk_cell BK172.out 2).trans rfl
           have hfp2 := blk_frozen BK172.out 2
           have hp3 : V.cell? ⟨gb172, 3, none⟩ = some (.string t164) := (blk_cell BK172.out 3).trans rfl
           have hfp3 := blk_frozen BK172.out 3
           have hp4 : V.cell? ⟨gb172, 4, none⟩ = some (.string t165) := (blk_cell BK172.out 4).trans rfl
           have hfp4 := blk_frozen BK172.out 4
           have hq0 : V.cell? ⟨gb173, 0, none⟩ = some (.int .u64 t167) := (blk_cell BK173.out 0).trans rfl
           have hfq0 := blk_frozen BK173.out 0
           have hq1 : V.cell? ⟨gb173, 1, none⟩ = some (.int .u64 t168) := (blk_cell BK173.out 1).trans rfl
           have hfq1 := blk_frozen BK173.out 1
           have hq2 : V.cell? ⟨gb173, 2, none⟩ = some (.int .u64 t169) := (blk_cell BK173.out 2).trans rfl
           have hfq2 := blk_frozen BK173.out 2
           have hq3 : V.cell? ⟨gb173, 3, none⟩ = some (.string t170) := (blk_cell BK173.out 3).trans rfl
           have hfq3 := blk_frozen BK173.out 3
           have hq4 : V.cell? ⟨gb173, 4, none⟩ = some (.string t171) := (blk_cell BK173.out 4).trans rfl
           have hfq4 := blk_frozen BK173.out 4
           try go_wp2_with (first | ((with_reducible refine gate_callee (f := 31) rfl ?_); refine goesL_ (some 53) rfl rfl Tryd.func31 (by kernel_rfl) rfl #[.agg #[.int .u64 t161, .int .u64 t162, .int .u64 t163, .string t164, .string t165], .agg #[.int .u64 t167, .int .u64 t168, .int .u64 t169, .string t170, .string t171]] rfl (by (try simp only [List.map_toArray, List.map_cons, List.map_nil]); first | done | rfl | (simp only [List.length_drop, List.length_take]; rfl)) ?_; (with_reducible refine (Hand.VersionLess.calls t161 t162 t163 t164 t165 t167 t168 t169 t170 t171 t174 _ ?gl1 A34.out).mono ?_); (case gl1 => first | exact HG.out | exact Hand.Gl.below HG.out (by repeat (first | (with_reducible first | exact HB.out | apply below_alloc | apply pw_below_drewN | apply below_drew1) | exact HB.out))); rintro e w60 ⟨rfl, hb⟩; refine ⟨_, rfl, ?_⟩; have n0_ := Aside0.mk (blk_below (by (with_reducible repeat (first | refine blk_drewN ?_ _ | refine blk_drew ?_ | refine blk_alloc ?_ _)); exact BK149.out) hb); have n1_ := Aside0.mk (blk_below (by (with_reducible repeat (first | refine blk_drewN ?_ _ | refine blk_drew ?_ | refine blk_alloc ?_ _)); exact BK172.out) hb); have n2_ := Aside0.mk (blk_below (by (with_reducible repeat (first | refine blk_drewN ?_ _ | refine blk_drew ?_ | refine blk_alloc ?_ _)); exact BK173.out) hb); have n3_ := Aside0.mk (below_step (by repeat (first | (with_reducible first | exact HB.out | apply below_alloc | apply pw_below_drewN | apply below_drew1 | refine below_set ?_ GE149.out | refine below_set ?_ GE172.out | refine below_set ?_ GE173.out) | exact HB.out)) hb); clear BK149; clear BK172; clear BK173; clear HB; have BK149 := n0_; have BK172 := n1_; have BK173 := n2_; have HB := n3_; clear n0_ n1_ n2_ n3_; (try clear hb); (try clear hb2); (try clear hk); (try clear hi); have hcz61_0 : w60.cell? ⟨gb172, 0, none⟩ = some (.int .u64 t161) := (blk_cell BK172.out 0).trans rfl; have hcz61_1 : w60.cell? ⟨gb172, 1, none⟩ = some (.int .u64 t162) := (blk_cell BK172.out 1).trans rfl; have hcz61_2 : w60.cell? ⟨gb172, 2, none⟩ = some (.int .u64 t163) := (blk_cell BK172.out 2).trans rfl; have hcz61_3 : w60.cell? ⟨gb172, 3, none⟩ = some (.string t164) := (blk_cell BK172.out 3).trans rfl; have hcz61_4 : w60.cell? ⟨gb172, 4, none⟩ = some (.string t165) := (blk_cell BK172.out 4).trans rfl; have hfz61_0 := blk_frozen BK172.out 0; have hfz61_1 := blk_frozen BK172.out 1; have hfz61_2 := blk_frozen BK172.out 2; have hfz61_3 := blk_frozen BK172.out 3; have hfz61_4 := blk_frozen BK172.out 4; have hcz62_0 : w60.cell? ⟨gb173, 0, none⟩ = some (.int .u64 t167) := (blk_cell BK173.out 0).trans rfl; have hcz62_1 : w60.cell? ⟨gb173, 1, none⟩ = some (.int .u64 t168) := (blk_cell BK173.out 1).trans rfl; have hcz62_2 : w60.cell? ⟨gb173, 2, none⟩ = some (.int .u64 t169) := (blk_cell BK173.out 2).trans rfl; have hcz62_3 : w60.cell? ⟨gb173, 3, none⟩ = some (.string t170) := (blk_cell BK173.out 3).trans rfl; have hcz62_4 : w60.cell? ⟨gb173, 4, none⟩ = some (.string t171) := (blk_cell BK173.out 4).trans rfl; have hfz62_0 := blk_frozen BK173.out 0; have hfz62_1 := blk_frozen BK173.out 1; have hfz62_2 := blk_frozen BK173.out 2; have hfz62_3 := blk_frozen BK173.out 3; have hfz62_4 := blk_frozen BK173.out 4) | (go_at_call 32; (with_reducible refine (Hand.VersionEqual.calls t161 t162 t163 t164 t165 t167 t168 t169 t170 t171 t175 _ ?gl2 A36.out).mono ?_); (case gl2 => first | exact HG.out | exact Hand.Gl.below HG.out (by repeat (first | (with_reducible first | exact HB.out | apply below_alloc | apply pw_below_drewN | apply below_drew1) | exact HB.out))); rintro e w63 ⟨rfl, hb⟩; have n0_ := Aside0.mk (blk_below (by (with_reducible repeat (first | refine blk_drewN ?_ _ | refine blk_drew ?_ | refine blk_alloc ?_ _)); exact BK149.out) hb); have n1_ := Aside0.mk (blk_below (by (with_reducible repeat (first | refine blk_drewN ?_ _ | refine blk_drew ?_ | refine blk_alloc ?_ _)); exact BK172.out) hb); have n2_ := Aside0.mk (blk_below (by (with_reducible repeat (first | refine blk_drewN ?_ _ | refine blk_drew ?_ | refine blk_alloc ?_ _)); exact BK173.out) hb); have n3_ := Aside0.mk (below_step (by repeat (first | (with_reducible first | exact HB.out | apply below_alloc | apply pw_below_drewN | apply below_drew1 | refine below_set ?_ GE149.out | refine below_set ?_ GE172.out | refine below_set ?_ GE173.out) | exact HB.out)) hb); clear BK149; clear BK172; clear BK173; clear HB; have BK149 := n0_; have BK172 := n1_; have BK173 := n2_; have HB := n3_; clear n0_ n1_ n2_ n3_; (try clear hb); (try clear hb2); (try clear hk); (try clear hi)))
           go_ret
           exact ⟨by first | rfl | (simp [errW_none, errW_some] <;> rfl) | (simp [*, errW_none, errW_some] <;> rfl), by repeat (first | (with_reducible first | exact HB.out | apply below_alloc | apply pw_below_drewN | apply below_drew1 | refine below_set ?_ GE149.out | refine below_set ?_ GE172.out | refine below_set ?_ GE173.out) | exact HB.out)⟩
          ·
           exact absurd (HPW.out _ t160 t166 t161 t162 t163 t164 t165 t167 t168 t169 t170 t171 t174 A28.out A30.out A31.out A33.out A34.out) c35
         ·
          rw [if_neg c32] at H
          exact absurd H (by simp)
        ·
         rw [if_neg c29] at H
         exact absurd H (by simp)
       ·
        rw [if_neg c27] at H
        exact absurd H (by simp)

end Go.Proofs.YtalpehfjjidfhaaDoor.MN
