/- What is proved: by hand, constraints made of lists of terms. -/
import Derived.Test.YtalpehfjjidfhaaDoorHandT2
namespace Go.Proofs.YtalpehfjjidfhaaDoor.Hand
set_option linter.unusedVariables false
set_option linter.unusedSimpArgs false
open Go.RowKit Go.Proofs.YtalpehfjjidfhaaDoorW.PrintWords Go.Proofs.YtalpehfjjidfhaaDoorW.PrintLast Go.Proofs.YtalpehfjjidfhaaDoorW.PrintMore Sv
theorem info133 : (Tryd.prog.info? 133).map (fun i => (i.zero, i.size, i.bytes)) = some (some (.pointer none), 1, 8) := by kernel_rfl
theorem info140 : (Tryd.prog.info? 140).map (fun i => (i.zero, i.size, i.bytes)) = some (some (.slice none 0 0), 1, 24) := by kernel_rfl
theorem info4 : (Tryd.prog.info? 4).map (fun i => (i.zero, i.size, i.bytes)) = some (some (.bool false), 1, 1) := by kernel_rfl
theorem set5' {w : World} {g : Nat} {t : TypeId} {z0 z1 z2 z3 z4 : Value} (h : w.heap[g]? = some (.cells #[z0, z1, z2, z3, z4] t (0, 0))) (x0 x1 x2 x3 x4 : Value) : (((((w.setCell ⟨g, 0, none⟩ x0).setCell ⟨g, 1, none⟩ x1).setCell ⟨g, 2, none⟩ x2).setCell ⟨g, 3, none⟩ x3).setCell ⟨g, 4, none⟩ x4).heap[g]? = some (.cells #[x0, x1, x2, x3, x4] t (0, 0)) := by
 have h0 : (w.setCell ⟨g, 0, none⟩ x0).heap[g]? = some (.cells #[x0, z1, z2, z3, z4] t (0, 0)) := blk_put h 0 x0 (by simp)
 have h1 := blk_put h0 1 x1 (cs' := #[x0, x1, z2, z3, z4]) (by simp)
 have h2 := blk_put h1 2 x2 (cs' := #[x0, x1, x2, z3, z4]) (by simp)
 have h3 := blk_put h2 3 x3 (cs' := #[x0, x1, x2, x3, z4]) (by simp)
 exact blk_put h3 4 x4 (cs' := #[x0, x1, x2, x3, x4]) (by simp)
theorem far5' {w : World} {g g' : Nat} {o : Obj} (h : w.heap[g']? = some o) (hne : g' ≠ g) (x0 x1 x2 x3 x4 : Value) : (((((w.setCell ⟨g, 0, none⟩ x0).setCell ⟨g, 1, none⟩ x1).setCell ⟨g, 2, none⟩ x2).setCell ⟨g, 3, none⟩ x3).setCell ⟨g, 4, none⟩ x4).heap[g']? = some o := by
 have s : ∀ (v : World) (i : Nat) (x : Value), v.heap[g']? = some o → (v.setCell ⟨g, i, none⟩ x).heap[g']? = some o := fun v i x hv => (Below.heap_setCell v ⟨g, i, none⟩ x g' hne).trans hv
 exact s _ _ _ (s _ _ _ (s _ _ _ (s _ _ _ (s _ _ _ h))))
theorem R_box5 {α : Type} {d : Kd α} {e : Nat} {w : World} {base : Nat} {ok : Nat → Prop} {v : Value} {xs : List α} (h : d.R e w base ok v xs) {g t : Nat} {cells : Array Value} (hb : w.heap[g]? = some (.cells cells t (0, 0))) (ht : ∀ q, q ∈ e :: d.E → q ≠ t) (x0 x1 x2 x3 x4 : Value) :
  d.R e (((((w.setCell ⟨g, 0, none⟩ x0).setCell ⟨g, 1, none⟩ x1).setCell ⟨g, 2, none⟩ x2).setCell ⟨g, 3, none⟩ x3).setCell ⟨g, 4, none⟩ x4) base ok v xs :=
 Kd.R_mono (Kd.R_far (p := ⟨g, 4, none⟩) (Kd.R_far (p := ⟨g, 3, none⟩) (Kd.R_far (p := ⟨g, 2, none⟩) (Kd.R_far (p := ⟨g, 1, none⟩) (Kd.R_far (p := ⟨g, 0, none⟩) (Kd.R_types h hb ht) (fun _ hk => hk.2) x0) (fun _ hk => hk.2) x1) (fun _ hk => hk.2) x2) (fun _ hk => hk.2) x3) (fun _ hk => hk.2) x4) (fun _ hk => hk.1)
theorem B_box5 {w v : World} {g : Nat} (h : Below w.heap.size w v) (hg : w.heap.size ≤ g) (x0 x1 x2 x3 x4 : Value) :
  Below w.heap.size w (((((v.setCell ⟨g, 0, none⟩ x0).setCell ⟨g, 1, none⟩ x1).setCell ⟨g, 2, none⟩ x2).setCell ⟨g, 3, none⟩ x3).setCell ⟨g, 4, none⟩ x4) :=
 below_set (below_set (below_set (below_set (below_set h hg) hg) hg) hg) hg
theorem set3' {w : World} {g : Nat} {t : TypeId} {z0 z1 z2 : Value} (h : w.heap[g]? = some (.cells #[z0, z1, z2] t (0, 0))) (x0 x1 x2 : Value) : (((w.setCell ⟨g, 0, none⟩ x0).setCell ⟨g, 1, none⟩ x1).setCell ⟨g, 2, none⟩ x2).heap[g]? = some (.cells #[x0, x1, x2] t (0, 0)) := by
 have h0 : (w.setCell ⟨g, 0, none⟩ x0).heap[g]? = some (.cells #[x0, z1, z2] t (0, 0)) := blk_put h 0 x0 (by simp)
 have h1 := blk_put h0 1 x1 (cs' := #[x0, x1, z2]) (by simp)
 exact blk_put h1 2 x2 (cs' := #[x0, x1, x2]) (by simp)
theorem far3' {w : World} {g g' : Nat} {o : Obj} (h : w.heap[g']? = some o) (hne : g' ≠ g) (x0 x1 x2 : Value) : (((w.setCell ⟨g, 0, none⟩ x0).setCell ⟨g, 1, none⟩ x1).setCell ⟨g, 2, none⟩ x2).heap[g']? = some o := by
 have s : ∀ (v : World) (i : Nat) (x : Value), v.heap[g']? = some o → (v.setCell ⟨g, i, none⟩ x).heap[g']? = some o := fun v i x hv => (Below.heap_setCell v ⟨g, i, none⟩ x g' hne).trans hv
 exact s _ _ _ (s _ _ _ (s _ _ _ h))
theorem R_box3 {α : Type} {d : Kd α} {e : Nat} {w : World} {base : Nat} {ok : Nat → Prop} {v : Value} {xs : List α} (h : d.R e w base ok v xs) {g t : Nat} {cells : Array Value} (hb : w.heap[g]? = some (.cells cells t (0, 0))) (ht : ∀ q, q ∈ e :: d.E → q ≠ t) (x0 x1 x2 : Value) :
  d.R e (((w.setCell ⟨g, 0, none⟩ x0).setCell ⟨g, 1, none⟩ x1).setCell ⟨g, 2, none⟩ x2) base ok v xs :=
 Kd.R_mono (Kd.R_far (p := ⟨g, 2, none⟩) (Kd.R_far (p := ⟨g, 1, none⟩) (Kd.R_far (p := ⟨g, 0, none⟩) (Kd.R_types h hb ht) (fun _ hk => hk.2) x0) (fun _ hk => hk.2) x1) (fun _ hk => hk.2) x2) (fun _ hk => hk.1)
theorem B_box3 {w v : World} {g : Nat} (h : Below w.heap.size w v) (hg : w.heap.size ≤ g) (x0 x1 x2 : Value) :
  Below w.heap.size w (((v.setCell ⟨g, 0, none⟩ x0).setCell ⟨g, 1, none⟩ x1).setCell ⟨g, 2, none⟩ x2) :=
 below_set (below_set (below_set h hg) hg) hg
/-- An element of a row of terms, as the package has them. -/
def zz0 : S42 × Nat := (z42, 0)
theorem at_Lz {w : World} {A : Option Addr} {n : Nat} {xs : List (List (S42 × Nat))} (h : Kd.C (Kd.slice 92 kz) w A n xs) (i : Int) (h0 : 0 ≤ i) (h1 : i < n) : ∃ ad A0 c0, A = some ad ∧ w.cell? (ad.add i.toNat) = some (.slice A0 (xs.getD i.toNat []).length c0) ∧ (xs.getD i.toNat []).length ≤ c0 ∧ kz.C w A0 (xs.getD i.toNat []).length (xs.getD i.toNat []) := by
 obtain ⟨ad, c, e, _, hK, hc0⟩ := Kd.C_get h ([] : List (S42 × Nat)) i h0 h1
 have hc : ∀ j u, c[j]? = some u → w.cell? (ad.add (i.toNat * 1 + j)) = some u := hc0
 obtain ⟨A0, c0, rfl, l0, g0⟩ := hK
 exact ⟨ad, A0, c0, e, by have hq := hc 0 _ rfl; rwa [Nat.mul_one, Nat.add_zero] at hq, l0, g0⟩
theorem at_Tz {w : World} {A : Option Addr} {n : Nat} {xs : List (S42 × Nat)} (h : kz.C w A n xs) (i : Int) (h0 : 0 ≤ i) (h1 : i < n) : ∃ ad, A = some ad ∧ w.cell? (ad.add (i.toNat * 5)) = some (.string (opText (xs.getD i.toNat zz0).1.f0)) ∧ w.cell? ⟨(ad.add (i.toNat * 5)).block, (ad.add (i.toNat * 5)).off + 1, none⟩ = some (.pointer (some ⟨(xs.getD i.toNat zz0).2, 0, none⟩)) ∧ w.cell? ⟨(ad.add (i.toNat * 5)).block, (ad.add (i.toNat * 5)).off + 2, none⟩ = some (.bool (decide ((xs.getD i.toNat zz0).1.f1 < 3))) ∧ w.cell? ⟨(ad.add (i.toNat * 5)).block, (ad.add (i.toNat * 5)).off + 3, none⟩ = some (.bool ((xs.getD i.toNat zz0).1.f1 == 1)) ∧ w.cell? ⟨(ad.add (i.toNat * 5)).block, (ad.add (i.toNat * 5)).off + 4, none⟩ = some (.bool ((xs.getD i.toNat zz0).1.f1 == 2))
  ∧ PAt w (xs.getD i.toNat zz0).2 (xs.getD i.toNat zz0).1.f2 (xs.getD i.toNat zz0).1.f3 (xs.getD i.toNat zz0).1.f4 (xs.getD i.toNat zz0).1.f5 := by
 obtain ⟨ad, c, e, _, hK, hc0⟩ := Kd.C_get h zz0 i h0 h1
 have hc : ∀ j u, c[j]? = some u → w.cell? (ad.add (i.toNat * 5 + j)) = some u := hc0
 obtain ⟨rfl, hP⟩ := hK
 exact ⟨ad, e, hc 0 _ rfl, by rw [← add_field _ _ 1 (by omega)]; exact hc 1 _ rfl, by rw [← add_field _ _ 2 (by omega)]; exact hc 2 _ rfl, by rw [← add_field _ _ 3 (by omega)]; exact hc 3 _ rfl, by rw [← add_field _ _ 4 (by omega)]; exact hc 4 _ rfl, hP⟩
/-- Whether one term of a list has a prerelease. -/
def hasZ (ts : List (S42 × Nat)) : Bool := ts.any fun x => x.1.f5.toList != []
theorem hasZ_snoc (ts : List (S42 × Nat)) (x : S42 × Nat) : hasZ (ts ++ [x]) = (hasZ ts || (x.1.f5.toList != [])) := by simp [hasZ]
theorem map_len {α β : Type} {f : α → β} {L : List α} {l : List β} {j : Nat} (h : L.map f = l.take j) (hj : j ≤ l.length) : L.length = j := by
 have := congrArg List.length h
 rw [List.length_map, List.length_take] at this
 omega
/-- A constraint without the block it lies at. -/
def unq (x : S42 × Nat × Nat) : S42 × Nat := (x.1, x.2.1)
set_option maxHeartbeats 8000000 in
set_option maxRecDepth 100000 in
theorem ZZC_any (A0 : Option Addr) (c0 : Nat) (l0 : List (List (S42 × Nat))) (b : Bool) (w : World) (hr0 : Kd.C (Kd.slice 92 kz) w A0 l0.length l0) (hn : l0.length ≤ 2147483647) (hm : ∀ x ∈ l0, x.length ≤ 2147483647) :
  Calls Tryd.prog 118 #[.slice A0 l0.length c0, .bool b] w fun e w' => ∃ (v1 v2 : Value) (L : List (List (S42 × Nat × Nat))), e = .returned (.agg #[v1, v2, .bool b]) ∧ L.map (List.map unq) = l0 ∧ Kd.R (Kd.slice 133 kq) 140 w' w.heap.size (fun _ => True) v1 L ∧ Kd.R Kd.bool 4 w' w.heap.size (fun _ => True) v2 (l0.map hasZ) ∧ Below w.heap.size w w' := by
 have HR0 := Aside0.mk hr0
 have HM0 := Aside0.mk hm
 clear hr0 hm
 have HB := Aside0.mk (Below.refl w.heap.size w)
 go_enter Tryd.func118, Tryd.ntmps118
 go_wp2_with (first
  | ((with_reducible refine gate_dst (N := 4) rfl ?_); refine box_event ?hg (N := 4) ?hd (cs := #[.slice none 0 0, .slice none 0 0, .bool false]) (t := 113) ?hr ?_; (case hd => rfl); (case hg => rfl); (case hr => first | (go_simp; done) | (go_simp; rfl)); intro g4 hg wb hbox hb; have n0_ := Aside0.mk (below_step HB.out hb); have n1_ := Aside0.mk hbox; have n2_ : Aside0 (w.heap.size ≤ g4) := ⟨by rw [hg]; exact below_size HB.out⟩; clear HB; have HB := n0_; have BK4 := n1_; have GE4 := n2_; clear n0_ n1_ n2_; clear hb hbox hg)
  | ((with_reducible refine gate_dst (N := 5) rfl ?_); refine box_event ?hg (N := 5) ?hd (cs := #[.slice none 0 0, .slice none 0 0, .bool false]) (t := 113) ?hr ?_; (case hd => rfl); (case hg => rfl); (case hr => first | (go_simp; done) | (go_simp; rfl)); intro g5 hg wc hbox hb; have n0_ := Aside0.mk (below_step HB.out hb); have n1_ := Aside0.mk hbox; have n2_ : Aside0 (w.heap.size ≤ g5) := ⟨by rw [hg]; exact below_size HB.out⟩; have n3_ : Aside0 (g4 ≠ g5) := ⟨by rw [hg]; exact Nat.ne_of_lt (blk_lt BK4.out)⟩; have n4_ := Aside0.mk (blk_below BK4.out hb); clear HB BK4; have HB := n0_; have BK5 := n1_; have GE5 := n2_; have NE := n3_; have BK4 := n4_; clear n0_ n1_ n2_ n3_ n4_; clear hb hbox hg; have hz0 : wc.cell? ⟨g5, 0, none⟩ = some (.slice none 0 0) := (blk_cell BK5.out 0).trans rfl; have hz1 : wc.cell? ⟨g5, 1, none⟩ = some (.slice none 0 0) := (blk_cell BK5.out 1).trans rfl; have hz2 : wc.cell? ⟨g5, 2, none⟩ = some (.bool false) := (blk_cell BK5.out 2).trans rfl; have hf0 := blk_frozen BK5.out 0; have hf1 := blk_frozen BK5.out 1; have hf2 := blk_frozen BK5.out 2))
 go_loopg [16] l0.length (fun kq_ v16 w' => ∃ (x : Int) (v1 v2 : Value) (L : List (List (S42 × Nat × Nat))), v16 = .int .i64 x ∧ Aside0 (0 ≤ x ∧ x + kq_ = l0.length) ∧ Aside0 (L.map (List.map unq) = l0.take x.toNat) ∧ Aside0 (Kd.R (Kd.slice 133 kq) 140 w' w.heap.size (fun _ => True) v1 L) ∧ Aside0 (Kd.R Kd.bool 4 w' w.heap.size (fun _ => True) v2 ((l0.take x.toNat).map hasZ)) ∧ Aside0 (w'.heap[g5]? = some (.cells #[v1, v2, .bool b] 113 (0, 0))) ∧ Aside0 (w'.heap[g4]? = some (.cells #[.slice none 0 0, .slice none 0 0, .bool false] 113 (0, 0))) ∧ Aside0 (Below w.heap.size w w'))
 case atStart => exact ⟨0, .slice none 0 0, .slice none 0 0, [], rfl, ⟨by omega⟩, ⟨rfl⟩, ⟨Kd.R_nil _ _ _ _ _⟩, ⟨Kd.R_nil _ _ _ _ _⟩, ⟨set3' BK5.out _ _ _⟩, ⟨far3' BK4.out NE.out _ _ _⟩, ⟨B_box3 HB.out GE5.out _ _ _⟩⟩
 case round =>
  clear BK4 BK5 HB
  try clear hz0 hz1 hz2 hf0 hf1 hf2
  obtain ⟨x, v1, v2, L, rfl, HX, HL, HO, HF, BK5, BK4, HB⟩ := hrel
  obtain ⟨F1, fc1, rfl⟩ := Kd.R_slice HO.out
  obtain ⟨F2, fc2, rfl⟩ := Kd.R_slice HF.out
  have hx := HX.out
  by_cases c3 : x < (l0.length : Int)
  ·
   have c3b0 : decide (x < (l0.length : Int)) = true := decide_eq_true c3
   obtain ⟨k1, rfl⟩ : ∃ k1, gk = k1 + 1 := ⟨gk - 1, by omega⟩
   have p1 : 0 ≤ x := hx.1
   obtain ⟨ad1, A1, c1, e1, hx1, hl1, hi1⟩ := at_Lz HR0.out x p1 c3
   cases e1
   replace hx1 := (HB.out.cell (World.block_lt_of_cell? w _ hx1)).trans hx1
   have HR1 := Aside0.mk hi1
   have hmem : l0.getD x.toNat [] ∈ l0 := by
    rw [List.getD_eq_getElem?_getD, List.getElem?_eq_getElem (show x.toNat < l0.length by omega)]
    exact List.getElem_mem _
   have hm1 := HM0.out _ hmem
   have htk := take_snoc l0 [] x.toNat (by omega)
   have hxs : L.map (List.map unq) ++ [l0.getD x.toNat []] = l0.take (x.toNat + 1) := by rw [HL.out, htk]
   have hfs : (l0.take x.toNat).map hasZ ++ [hasZ (l0.getD x.toNat [])] = (l0.take (x.toNat + 1)).map hasZ := by rw [htk, List.map_append]; rfl
   have HXS := Aside0.mk hxs
   have HFS := Aside0.mk hfs
   have HM1 := Aside0.mk hm1
   have hll : L.length = x.toNat := map_len HL.out (by omega)
   have hfl : ((l0.take x.toNat).map hasZ).length = x.toNat := by rw [List.length_map, List.length_take]; omega
   have HLL : Aside0 (L.length < 2147483647 ∧ ((l0.take x.toNat).map hasZ).length < 2147483647) := ⟨by omega⟩
   have HX2 : Aside0 (0 ≤ x ∧ x + 1 + k1 = l0.length ∧ x < 2147483647) := ⟨by omega⟩
   generalize l0.getD x.toNat [] = xs at hx1 hl1 HR1 HXS HM1 HFS
   generalize (l0.take x.toNat).map hasZ = fs at HF BK5 HFS HLL hfl
   clear hi1 hmem hm1 hxs hll hfl hfs htk HL hx HX
   replace p1 := eq_true p1
   replace c3 := eq_true c3
   go_wp2
   go_loopg [8, 9, 22] xs.length (fun kq_ v8 v9 v22 w' => ∃ (y : Int) (os : List (S42 × Nat × Nat)) (pb : Bool), v9 = .bool pb ∧ v22 = .int .i64 y ∧ Aside0 (0 ≤ y ∧ y + kq_ = xs.length) ∧ Aside0 (os.map unq = xs.take y.toNat) ∧ Aside0 (pb = hasZ (xs.take y.toNat)) ∧ Aside0 (kq.R 133 w' w.heap.size (fun _ => True) v8 os) ∧ Aside0 (Kd.R (Kd.slice 133 kq) 140 w' w.heap.size (fun k => True ∧ some k ≠ v8.ownBlock) (.slice F1 L.length fc1) L) ∧ Aside0 (Kd.R Kd.bool 4 w' w.heap.size (fun _ => True) (.slice F2 fs.length fc2) fs) ∧ Aside0 (w'.heap[g5]? = some (.cells #[.slice F1 L.length fc1, .slice F2 fs.length fc2, .bool b] 113 (0, 0))) ∧ Aside0 (w'.heap[g4]? = some (.cells #[.slice none 0 0, .slice none 0 0, .bool false] 113 (0, 0))) ∧ Aside0 (Below w.heap.size w w'))
   case atStart => exact ⟨0, [], false, rfl, rfl, ⟨by omega⟩, ⟨rfl⟩, ⟨rfl⟩, ⟨Kd.R_nil _ _ _ _ _⟩, ⟨Kd.R_apart_nil HO.out⟩, HF, BK5, BK4, HB⟩
   case round =>
    clear HO HF BK5 BK4 HB
    obtain ⟨y, os, pb, rfl, rfl, HY, HT, HPB, HTR, HOR, HF, BK5, BK4, HB⟩ := hrel
    have hy := HY.out
    have hol : os.length = y.toNat := map_len HT.out (by omega)
    by_cases d3 : y < (xs.length : Int)
    ·
     have d3b0 : decide (y < (xs.length : Int)) = true := decide_eq_true d3
     obtain ⟨k2, rfl⟩ : ∃ k2, gk = k2 + 1 := ⟨gk - 1, by omega⟩
     have q1 : 0 ≤ y := hy.1
     obtain ⟨ad2, e2, hy0, hy1, hy2, hy3, hy4, hP⟩ := at_Tz HR1.out y q1 d3
     cases e2
     replace hy0 := (HB.out.cell (World.block_lt_of_cell? w _ hy0)).trans hy0
     replace hy1 := (HB.out.cell (World.block_lt_of_cell? w _ hy1)).trans hy1
     replace hy2 := (HB.out.cell (World.block_lt_of_cell? w _ hy2)).trans hy2
     replace hy3 := (HB.out.cell (World.block_lt_of_cell? w _ hy3)).trans hy3
     replace hy4 := (HB.out.cell (World.block_lt_of_cell? w _ hy4)).trans hy4
     have htk := take_snoc xs zz0 y.toNat (by omega)
     have hts : os.map unq ++ [xs.getD y.toNat zz0] = xs.take (y.toNat + 1) := by rw [HT.out, htk]
     have hps : (pb || ((xs.getD y.toNat zz0).1.f5.toList != [])) = hasZ (xs.take (y.toNat + 1)) := by rw [htk, hasZ_snoc, HPB.out]
     have HTS := Aside0.mk hts
     have HPS := Aside0.mk hps
     have HPt := Aside0.mk hP
     have HTL : Aside0 (os.length < 2147483647) := ⟨by have := HM1.out; omega⟩
     have HY2 : Aside0 (0 ≤ y ∧ y + 1 + k2 = xs.length ∧ y < 2147483647) := ⟨by have := HM1.out; omega⟩
     clear hts hps hol HT HPB hy HY hP htk
     generalize xs.getD y.toNat zz0 = tp at hy0 hy1 hy2 hy3 hy4 HTS HPS HPt
     obtain ⟨tt, p⟩ := tp
     replace q1 := eq_true q1
     replace d3 := eq_true d3
     dsimp only at hy0 hy1 hy2 hy3 hy4
     by_cases e5 : tt.f5.toList = ([] : List UInt8)
     
     ·
      have e5b : (tt.f5.toList != ([] : List UInt8)) = false := bne_eq_false_iff_eq.mpr e5
      have e5c : tt.f5.toList.isEmpty = true := List.isEmpty_iff.2 e5
      have HPS2 : Aside0 (pb = hasZ (xs.take (y.toNat + 1))) := ⟨by have := HPS.out; rw [e5b] at this; simpa using this⟩
      go_wp2_with (first
       | ((with_reducible refine gate_dst (N := 11) rfl ?_); refine box_event ?hg (N := 11) ?hd (cs := #[.string (⟨#[]⟩ : ByteArray), .pointer none, .bool false, .bool false, .bool false]) (t := 92) ?hr ?_; (case hd => rfl); (case hg => rfl); (case hr => first | (go_simp; done) | (go_simp; rfl)); intro gb hg wb hbox hb; have n0_ := Aside0.mk (below_step HB.out hb); have n1_ := Aside0.mk hbox; have n2_ : Aside0 (w.heap.size ≤ gb) := ⟨by rw [hg]; exact below_size HB.out⟩; have n3_ := Aside0.mk (Kd.R_below HTR.out hb); have n4_ := Aside0.mk (Kd.R_below HOR.out hb); have n5_ := Aside0.mk (Kd.R_below HF.out hb); have n6_ := Aside0.mk (blk_below BK5.out hb); have n7_ := Aside0.mk (blk_below BK4.out hb); clear HB HTR HOR HF BK5 BK4; have HB := n0_; have BK := n1_; have GE := n2_; have HTR := n3_; have HOR := n4_; have HF := n5_; have BK5 := n6_; have BK4 := n7_; clear n0_ n1_ n2_ n3_ n4_ n5_ n6_ n7_; clear hb hbox hg; have hz0 : wb.cell? ⟨gb, 0, none⟩ = some (.string (⟨#[]⟩ : ByteArray)) := (blk_cell BK.out 0).trans rfl; have hz1 : wb.cell? ⟨gb, 1, none⟩ = some (.pointer none) := (blk_cell BK.out 1).trans rfl; have hz2 : wb.cell? ⟨gb, 2, none⟩ = some (.bool false) := (blk_cell BK.out 2).trans rfl; have hz3 : wb.cell? ⟨gb, 3, none⟩ = some (.bool false) := (blk_cell BK.out 3).trans rfl; have hz4 : wb.cell? ⟨gb, 4, none⟩ = some (.bool false) := (blk_cell BK.out 4).trans rfl; have hf0 := blk_frozen BK.out 0; have hf1 := blk_frozen BK.out 1; have hf2 := blk_frozen BK.out 2; have hf3 := blk_frozen BK.out 3; have hf4 := blk_frozen BK.out 4)
       | (go_at_call 144; (with_reducible refine (inner_blk (opText tt.f0) p (decide (tt.f1 < 3)) (tt.f1 == 1) (tt.f1 == 2) _).mono ?_); rintro e w1 ⟨N, rfl, ⟨hQ, hN⟩, hb⟩; have n0_ := Aside0.mk (below_step (B_box5 HB.out GE.out _ _ _ _ _) hb); have n1_ := Aside0.mk (Kd.R_below (R_box5 HTR.out BK.out (by decide) _ _ _ _ _) hb); have n2_ := Aside0.mk (Kd.R_below (R_box5 HOR.out BK.out (by decide) _ _ _ _ _) hb); have n3_ := Aside0.mk (Kd.R_below (R_box5 HF.out BK.out (by decide) _ _ _ _ _) hb); have n4_ := Aside0.mk (blk_below (far5' BK5.out (blk_ne BK5.out BK.out (by decide)) _ _ _ _ _) hb); have n5_ := Aside0.mk (blk_below (far5' BK4.out (blk_ne BK4.out BK.out (by decide)) _ _ _ _ _) hb); have n6_ := Aside0.mk (blk_below (set5' BK.out _ _ _ _ _) hb); have n7_ := Aside0.mk hQ; have n8_ : Aside0 (w.heap.size ≤ N) := ⟨Nat.le_trans (below_size (B_box5 HB.out GE.out _ _ _ _ _)) hN⟩; clear HB HTR HOR HF BK5 BK4 BK hQ hN hb; have HB := n0_; have HTR := n1_; have HOR := n2_; have HF := n3_; have BK5 := n4_; have BK4 := n5_; have BK := n6_; have HQ := n7_; have HN := n8_; clear n0_ n1_ n2_ n3_ n4_ n5_ n6_ n7_ n8_)
       | ((with_reducible refine gate_builtin (b := .append) (xs := #[.tmp 26, .tmp 29]) rfl ?_); at_builtin; refine Kd.R_append kq (w0 := w) w.heap.size rfl (.tmp 26) (.tmp 29) 140 133 (.pointer none) 8 rfl Tryd.underlying140 info133 rfl (by decide) (by omega) u8 os (tt, p, N) [.pointer (some ⟨N, 0, none⟩)] (fun _ => True) (fun k => k = N) rfl rfl ?aP ?aK ?aF ?aO ?aB ?aS ?aL ?_; (case aP => exact ⟨rfl, HQ.out, rfl, HN.out⟩); (case aK => exact (fun k hk => ⟨trivial, by rw [hk]; exact Kd.R_ne HTR.out HQ.out (by decide)⟩)); (case aF => exact (fun _ _ => trivial)); (case aO => exact HTR.out); (case aB => exact HB.out); (case aS => exact below_size HB.out); (case aL => have := HTL.out; omega); intro v1_ w2 ho hb hg hat; have n0_ := Aside0.mk hb; have n1_ := Aside0.mk ho; have n2_ := Aside0.mk (Kd.R_after HOR.out hg hat); have n3_ := Aside0.mk (Kd.R_over HF.out HTR.out (by decide) hg); have n4_ := Aside0.mk (blk_grown BK5.out hg (Kd.R_ne HTR.out BK5.out (by decide))); have n5_ := Aside0.mk (blk_grown BK4.out hg (Kd.R_ne HTR.out BK4.out (by decide))); have n6_ := Aside0.mk (blk_grown BK.out hg (Kd.R_ne HTR.out BK.out (by decide))); clear HB HTR HOR HF BK5 BK4 BK ho hb hg hat; have HB := n0_; have HTR := n1_; have HOR := n2_; have HF := n3_; have BK5 := n4_; have BK4 := n5_; have BK := n6_; clear n0_ n1_ n2_ n3_ n4_ n5_ n6_; have hw1 : w2.cell? ⟨gb, 1, none⟩ = some (.pointer (some ⟨p, 0, none⟩)) := (blk_cell BK.out 1).trans rfl; have hp3 : w2.cell? ⟨p, 3, none⟩ = some (.string tt.f5) := (blk_cell (HPt.out.below HB.out) 3).trans rfl))
      go_roundg k2
      case measure => omega
      case rel => exact ⟨wrap64 (y + 1), os ++ [(tt, p, N)], pb, rfl, rfl, ⟨by have := HY2.out; rw [IntWalk.wrap64_in _ (by omega)]; omega⟩, ⟨by have := HY2.out; rw [IntWalk.wrap64_in _ (by omega), List.map_append, show (y + 1).toNat = y.toNat + 1 by omega]; exact HTS.out⟩, ⟨by have := HY2.out; rw [IntWalk.wrap64_in _ (by omega), show (y + 1).toNat = y.toNat + 1 by omega]; exact HPS2.out⟩, HTR, HOR, HF, BK5, BK4, HB⟩
     ·
      have e5b : (tt.f5.toList != ([] : List UInt8)) = true := bne_iff_ne.mpr e5
      have e5c : tt.f5.toList.isEmpty = false := by cases hh : tt.f5.toList.isEmpty with | true => exact absurd (List.isEmpty_iff.1 hh) e5 | false => rfl
      have HPS2 : Aside0 (true = hasZ (xs.take (y.toNat + 1))) := ⟨by have := HPS.out; rw [e5b] at this; simpa using this⟩
      go_wp2_with (first
       | ((with_reducible refine gate_dst (N := 11) rfl ?_); refine box_event ?hg (N := 11) ?hd (cs := #[.string (⟨#[]⟩ : ByteArray), .pointer none, .bool false, .bool false, .bool false]) (t := 92) ?hr ?_; (case hd => rfl); (case hg => rfl); (case hr => first | (go_simp; done) | (go_simp; rfl)); intro gb hg wb hbox hb; have n0_ := Aside0.mk (below_step HB.out hb); have n1_ := Aside0.mk hbox; have n2_ : Aside0 (w.heap.size ≤ gb) := ⟨by rw [hg]; exact below_size HB.out⟩; have n3_ := Aside0.mk (Kd.R_below HTR.out hb); have n4_ := Aside0.mk (Kd.R_below HOR.out hb); have n5_ := Aside0.mk (Kd.R_below HF.out hb); have n6_ := Aside0.mk (blk_below BK5.out hb); have n7_ := Aside0.mk (blk_below BK4.out hb); clear HB HTR HOR HF BK5 BK4; have HB := n0_; have BK := n1_; have GE := n2_; have HTR := n3_; have HOR := n4_; have HF := n5_; have BK5 := n6_; have BK4 := n7_; clear n0_ n1_ n2_ n3_ n4_ n5_ n6_ n7_; clear hb hbox hg; have hz0 : wb.cell? ⟨gb, 0, none⟩ = some (.string (⟨#[]⟩ : ByteArray)) := (blk_cell BK.out 0).trans rfl; have hz1 : wb.cell? ⟨gb, 1, none⟩ = some (.pointer none) := (blk_cell BK.out 1).trans rfl; have hz2 : wb.cell? ⟨gb, 2, none⟩ = some (.bool false) := (blk_cell BK.out 2).trans rfl; have hz3 : wb.cell? ⟨gb, 3, none⟩ = some (.bool false) := (blk_cell BK.out 3).trans rfl; have hz4 : wb.cell? ⟨gb, 4, none⟩ = some (.bool false) := (blk_cell BK.out 4).trans rfl; have hf0 := blk_frozen BK.out 0; have hf1 := blk_frozen BK.out 1; have hf2 := blk_frozen BK.out 2; have hf3 := blk_frozen BK.out 3; have hf4 := blk_frozen BK.out 4)
       | (go_at_call 144; (with_reducible refine (inner_blk (opText tt.f0) p (decide (tt.f1 < 3)) (tt.f1 == 1) (tt.f1 == 2) _).mono ?_); rintro e w1 ⟨N, rfl, ⟨hQ, hN⟩, hb⟩; have n0_ := Aside0.mk (below_step (B_box5 HB.out GE.out _ _ _ _ _) hb); have n1_ := Aside0.mk (Kd.R_below (R_box5 HTR.out BK.out (by decide) _ _ _ _ _) hb); have n2_ := Aside0.mk (Kd.R_below (R_box5 HOR.out BK.out (by decide) _ _ _ _ _) hb); have n3_ := Aside0.mk (Kd.R_below (R_box5 HF.out BK.out (by decide) _ _ _ _ _) hb); have n4_ := Aside0.mk (blk_below (far5' BK5.out (blk_ne BK5.out BK.out (by decide)) _ _ _ _ _) hb); have n5_ := Aside0.mk (blk_below (far5' BK4.out (blk_ne BK4.out BK.out (by decide)) _ _ _ _ _) hb); have n6_ := Aside0.mk (blk_below (set5' BK.out _ _ _ _ _) hb); have n7_ := Aside0.mk hQ; have n8_ : Aside0 (w.heap.size ≤ N) := ⟨Nat.le_trans (below_size (B_box5 HB.out GE.out _ _ _ _ _)) hN⟩; clear HB HTR HOR HF BK5 BK4 BK hQ hN hb; have HB := n0_; have HTR := n1_; have HOR := n2_; have HF := n3_; have BK5 := n4_; have BK4 := n5_; have BK := n6_; have HQ := n7_; have HN := n8_; clear n0_ n1_ n2_ n3_ n4_ n5_ n6_ n7_ n8_)
       | ((with_reducible refine gate_builtin (b := .append) (xs := #[.tmp 26, .tmp 29]) rfl ?_); at_builtin; refine Kd.R_append kq (w0 := w) w.heap.size rfl (.tmp 26) (.tmp 29) 140 133 (.pointer none) 8 rfl Tryd.underlying140 info133 rfl (by decide) (by omega) u8 os (tt, p, N) [.pointer (some ⟨N, 0, none⟩)] (fun _ => True) (fun k => k = N) rfl rfl ?aP ?aK ?aF ?aO ?aB ?aS ?aL ?_; (case aP => exact ⟨rfl, HQ.out, rfl, HN.out⟩); (case aK => exact (fun k hk => ⟨trivial, by rw [hk]; exact Kd.R_ne HTR.out HQ.out (by decide)⟩)); (case aF => exact (fun _ _ => trivial)); (case aO => exact HTR.out); (case aB => exact HB.out); (case aS => exact below_size HB.out); (case aL => have := HTL.out; omega); intro v1_ w2 ho hb hg hat; have n0_ := Aside0.mk hb; have n1_ := Aside0.mk ho; have n2_ := Aside0.mk (Kd.R_after HOR.out hg hat); have n3_ := Aside0.mk (Kd.R_over HF.out HTR.out (by decide) hg); have n4_ := Aside0.mk (blk_grown BK5.out hg (Kd.R_ne HTR.out BK5.out (by decide))); have n5_ := Aside0.mk (blk_grown BK4.out hg (Kd.R_ne HTR.out BK4.out (by decide))); have n6_ := Aside0.mk (blk_grown BK.out hg (Kd.R_ne HTR.out BK.out (by decide))); clear HB HTR HOR HF BK5 BK4 BK ho hb hg hat; have HB := n0_; have HTR := n1_; have HOR := n2_; have HF := n3_; have BK5 := n4_; have BK4 := n5_; have BK := n6_; clear n0_ n1_ n2_ n3_ n4_ n5_ n6_; have hw1 : w2.cell? ⟨gb, 1, none⟩ = some (.pointer (some ⟨p, 0, none⟩)) := (blk_cell BK.out 1).trans rfl; have hp3 : w2.cell? ⟨p, 3, none⟩ = some (.string tt.f5) := (blk_cell (HPt.out.below HB.out) 3).trans rfl))
      go_roundg k2
      case measure => omega
      case rel => exact ⟨wrap64 (y + 1), os ++ [(tt, p, N)], true, rfl, rfl, ⟨by have := HY2.out; rw [IntWalk.wrap64_in _ (by omega)]; omega⟩, ⟨by have := HY2.out; rw [IntWalk.wrap64_in _ (by omega), List.map_append, show (y + 1).toNat = y.toNat + 1 by omega]; exact HTS.out⟩, ⟨by have := HY2.out; rw [IntWalk.wrap64_in _ (by omega), show (y + 1).toNat = y.toNat + 1 by omega]; exact HPS2.out⟩, HTR, HOR, HF, BK5, BK4, HB⟩
    ·
     have d3b0 : decide (y < (xs.length : Int)) = false := decide_eq_false d3
     have hts : os.map unq = xs := by rw [HT.out, show y.toNat = xs.length by omega, List.take_length]
     have hpb : pb = hasZ xs := by rw [HPB.out, show y.toNat = xs.length by omega, List.take_length]
     have HTS := Aside0.mk hts
     have HPS := Aside0.mk hpb
     clear HT HPB hts hpb hol hy HY d3
     obtain ⟨Ai, ci, rfl⟩ := Kd.R_slice HTR.out
     obtain ⟨L2, hL2⟩ : ∃ y_, y_ = L ++ [os] := ⟨_, rfl⟩
     obtain ⟨fs2, hfs2⟩ : ∃ y_, y_ = fs ++ [pb] := ⟨_, rfl⟩
     have NL := Aside0.mk hL2
     have NF := Aside0.mk hfs2
     clear hL2 hfs2
     have hk0 : wr.cell? ⟨g5, 0, none⟩ = some (.slice F1 L.length fc1) := (blk_cell BK5.out 0).trans rfl
     have hk1 : wr.cell? ⟨g5, 1, none⟩ = some (.slice F2 fs.length fc2) := (blk_cell BK5.out 1).trans rfl
     have hj0 := blk_frozen BK5.out 0
     have hj1 := blk_frozen BK5.out 1
     go_wp2_with (first
      | ((with_reducible refine gate_builtin (b := .append) (xs := #[.tmp 39, .tmp 41]) rfl ?_); at_builtin; refine Kd.R_append (Kd.slice 133 kq) (w0 := w) w.heap.size rfl (.tmp 39) (.tmp 41) 110 140 (.slice none 0 0) 24 rfl Tryd.underlying110 info140 rfl (by decide) (by omega) (.slice F1 L.length fc1) L os [.slice Ai os.length ci] (fun _ => True) (fun k => True ∧ some k ≠ (Value.slice F1 L.length fc1).ownBlock) rfl rfl ?aP (fun _ hk => hk) ?aF ?aO ?aB ?aS ?aL ?_; (case aP => exact ⟨_, rfl, Kd.R_apartR HTR.out HOR.out (by decide)⟩); (case aF => exact (fun _ _ => trivial)); (case aO => exact Kd.R_drop HOR.out); (case aB => exact HB.out); (case aS => exact below_size HB.out); (case aL => have := HLL.out; omega); intro v1_ w2 ho hb hg hat; rw [← NL.out] at ho; have n0_ := Aside0.mk hb; have n1_ := Aside0.mk ho; have n3_ := Aside0.mk (Kd.R_over HF.out HOR.out (by decide) hg); have n4_ := Aside0.mk (blk_grown BK5.out hg (Kd.R_ne HOR.out BK5.out (by decide))); have n5_ := Aside0.mk (blk_grown BK4.out hg (Kd.R_ne HOR.out BK4.out (by decide))); clear HB HTR HOR HF BK5 BK4 ho hb hg hat; have HB := n0_; have HO := n1_; have HF := n3_; have BK5 := n4_; have BK4 := n5_; clear n0_ n1_ n3_ n4_ n5_; obtain ⟨G1, gc1, rfl⟩ := Kd.R_slice HO.out; have hr0 : w2.cell? ⟨g5, 0, none⟩ = some (.slice F1 L.length fc1) := (blk_cell BK5.out 0).trans rfl; have hr1 : w2.cell? ⟨g5, 1, none⟩ = some (.slice F2 fs.length fc2) := (blk_cell BK5.out 1).trans rfl; have hs0 := blk_frozen BK5.out 0; have hs1 := blk_frozen BK5.out 1)
      | ((with_reducible refine gate_builtin (b := .append) (xs := #[.tmp 45, .tmp 47]) rfl ?_); at_builtin; refine Kd.R_append Kd.bool (w0 := w) w.heap.size rfl (.tmp 45) (.tmp 47) 111 4 (.bool false) 1 rfl Tryd.underlying111 info4 rfl (by decide) (by omega) (.slice F2 fs.length fc2) fs pb [.bool pb] (fun _ => True) (fun _ => False) rfl ?aX ?aP (fun _ hk => hk.elim) ?aF ?aO ?aB ?aS ?aL ?_; (case aX => first | rfl | (go_simp; done) | (go_simp; rfl)); (case aP => exact rfl); (case aF => exact (fun _ _ => trivial)); (case aO => exact Kd.R_set HF.out BK5.out (by decide) 0 _); (case aB => exact below_set HB.out GE5.out); (case aS => exact below_size (below_set HB.out GE5.out)); (case aL => have := HLL.out; omega); intro v2_ w3 ho hb hg hat; rw [← NF.out] at ho; have n0_ := Aside0.mk hb; have n1_ := Aside0.mk ho; have n3_ := Aside0.mk (Kd.R_over (Kd.R_set HO.out BK5.out (by decide) 0 _) (Kd.R_set HF.out BK5.out (by decide) 0 _) (by decide) hg); have hk5 := blk_put BK5.out 0 (.slice G1 L2.length gc1) (cs' := #[.slice G1 L2.length gc1, .slice F2 fs.length fc2, .bool b]) (by simp); have n4_ := Aside0.mk (blk_grown hk5 hg (Kd.R_ne (Kd.R_set HF.out BK5.out (by decide) 0 (.slice G1 L2.length gc1)) hk5 (by decide))); have hk4 := blk_far BK4.out (p := ⟨g5, 0, none⟩) NE.out (.slice G1 L2.length gc1); have n5_ := Aside0.mk (blk_grown hk4 hg (Kd.R_ne (Kd.R_set HF.out BK5.out (by decide) 0 (.slice G1 L2.length gc1)) hk4 (by decide))); clear HB HO HF BK5 BK4 ho hb hg hat hk5 hk4; have HB := n0_; have HF := n1_; have HO := n3_; have BK5 := n4_; have BK4 := n5_; clear n0_ n1_ n3_ n4_ n5_; obtain ⟨G2, gc2, rfl⟩ := Kd.R_slice HF.out; have hr1 : w3.cell? ⟨g5, 1, none⟩ = some (.slice F2 fs.length fc2) := (blk_cell BK5.out 1).trans rfl; have hs1 := blk_frozen BK5.out 1))
     go_roundg k1
     case measure => omega
     case rel => exact ⟨wrap64 (x + 1), .slice G1 L2.length gc1, .slice G2 fs2.length gc2, L2, rfl, ⟨by have := HX2.out; rw [IntWalk.wrap64_in _ (by omega)]; omega⟩, ⟨by have := HX2.out; rw [NL.out, IntWalk.wrap64_in _ (by omega), List.map_append, show (x + 1).toNat = x.toNat + 1 by omega, ← HXS.out, ← HTS.out]; rfl⟩, ⟨Kd.R_set HO.out BK5.out (by decide) 1 _⟩, ⟨by have := HX2.out; rw [IntWalk.wrap64_in _ (by omega), show (x + 1).toNat = x.toNat + 1 by omega, ← HFS.out, ← HPS.out, ← NF.out]; exact Kd.R_set HF.out BK5.out (by decide) 1 _⟩, ⟨blk_put BK5.out 1 (.slice G2 fs2.length gc2) (by simp)⟩, ⟨blk_far BK4.out (p := ⟨g5, 1, none⟩) NE.out _⟩, ⟨below_set HB.out GE5.out⟩⟩
  ·
   have c3b0 : decide (x < (l0.length : Int)) = false := decide_eq_false c3
   have hxe : x.toNat = l0.length := by omega
   have hfin : L.map (List.map unq) = l0 := by rw [HL.out, hxe, List.take_length]
   rw [hxe, List.take_length] at HF BK5
   have hk0 : wr.cell? ⟨g5, 0, none⟩ = some (.slice F1 L.length fc1) := (blk_cell BK5.out 0).trans rfl
   have hk1 : wr.cell? ⟨g5, 1, none⟩ = some (.slice F2 (l0.map hasZ).length fc2) := (blk_cell BK5.out 1).trans rfl
   have hk2 : wr.cell? ⟨g5, 2, none⟩ = some (.bool b) := (blk_cell BK5.out 2).trans rfl
   have hi0 : wr.cell? ⟨g4, 0, none⟩ = some (.slice none 0 0) := (blk_cell BK4.out 0).trans rfl
   have hi1 : wr.cell? ⟨g4, 1, none⟩ = some (.slice none 0 0) := (blk_cell BK4.out 1).trans rfl
   have hi2 : wr.cell? ⟨g4, 2, none⟩ = some (.bool false) := (blk_cell BK4.out 2).trans rfl
   have hf0 := blk_frozen BK4.out 0
   have hf1 := blk_frozen BK4.out 1
   have hf2 := blk_frozen BK4.out 2
   clear HL hx HX hxe c3
   go_wp2
   refine bodyPost_ret (v := .agg #[.slice F1 L.length fc1, .slice F2 (l0.map hasZ).length fc2, .bool b]) (by simp [results, Tryd.results118, go_sem, hi0, hi1, hi2, hf0, hf1, hf2]) rfl ?_
   exact ⟨_, _, rfl, L, hfin, R_box3 HO.out BK4.out (by decide) _ _ _, R_box3 HF.out BK4.out (by decide) _ _ _, B_box3 HB.out GE4.out _ _ _⟩
end Go.Proofs.YtalpehfjjidfhaaDoor.Hand
