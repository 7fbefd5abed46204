/- What is proved: by hand, lists of terms as the package has them. -/
import Derived.Test.YtalpehfjjidfhaaDoorHandT1
namespace Go.Proofs.YtalpehfjjidfhaaDoor.Hand
set_option linter.unusedVariables false
set_option linter.unusedSimpArgs false
open Go.RowKit Go.Proofs.YtalpehfjjidfhaaDoorW.PrintWords Go.Proofs.YtalpehfjjidfhaaDoorW.PrintLast Go.Proofs.YtalpehfjjidfhaaDoorW.PrintMore Sv
theorem info92 : (Tryd.prog.info? 92).map (fun i => (i.zero, i.size, i.bytes)) = some (some (.agg #[(.string ⟨#[]⟩), (.pointer none), (.bool false), (.bool false), (.bool false)]), 5, 32) := by kernel_rfl
theorem info139 : (Tryd.prog.info? 139).map (fun i => (i.zero, i.size, i.bytes)) = some (some (.slice none 0 0), 1, 24) := by kernel_rfl
theorem R_box6 {α : Type} {d : Kd α} {e : Nat} {w : World} {base : Nat} {ok : Nat → Prop} {v : Value} {xs : List α} (h : d.R e w base ok v xs) {g t : Nat} {cells : Array Value} (hb : w.heap[g]? = some (.cells cells t (0, 0))) (ht : ∀ q, q ∈ e :: d.E → q ≠ t) (x0 x1 x2 x3 x4 x5 : Value) :
  d.R e ((((((w.setCell ⟨g, 0, none⟩ x0).setCell ⟨g, 1, none⟩ x1).setCell ⟨g, 2, none⟩ x2).setCell ⟨g, 3, none⟩ x3).setCell ⟨g, 4, none⟩ x4).setCell ⟨g, 5, none⟩ x5) base ok v xs :=
 Kd.R_mono (Kd.R_far (p := ⟨g, 5, none⟩) (Kd.R_far (p := ⟨g, 4, none⟩) (Kd.R_far (p := ⟨g, 3, none⟩) (Kd.R_far (p := ⟨g, 2, none⟩) (Kd.R_far (p := ⟨g, 1, none⟩) (Kd.R_far (p := ⟨g, 0, none⟩) (Kd.R_types h hb ht) (fun _ hk => hk.2) x0) (fun _ hk => hk.2) x1) (fun _ hk => hk.2) x2) (fun _ hk => hk.2) x3) (fun _ hk => hk.2) x4) (fun _ hk => hk.2) x5) (fun _ hk => hk.1)
theorem B_box6 {w v : World} {g : Nat} (h : Below w.heap.size w v) (hg : w.heap.size ≤ g) (x0 x1 x2 x3 x4 x5 : Value) :
  Below w.heap.size w ((((((v.setCell ⟨g, 0, none⟩ x0).setCell ⟨g, 1, none⟩ x1).setCell ⟨g, 2, none⟩ x2).setCell ⟨g, 3, none⟩ x3).setCell ⟨g, 4, none⟩ x4).setCell ⟨g, 5, none⟩ x5) :=
 below_set (below_set (below_set (below_set (below_set (below_set h hg) hg) hg) hg) hg) hg
theorem fst_len {α β : Type} {L : List (α × β)} {l : List α} {j : Nat} (h : L.map Prod.fst = l.take j) (hj : j ≤ l.length) : L.length = j := by
 have := congrArg List.length h
 rw [List.length_map, List.length_take] at this
 omega
theorem take_snoc {α : Type} (l : List α) (z : α) (j : Nat) (hj : j < l.length) : l.take (j + 1) = l.take j ++ [l.getD j z] := by
 rw [List.take_add_one, List.getD_eq_getElem?_getD, List.getElem?_eq_getElem hj]
 rfl
set_option maxHeartbeats 8000000 in
set_option maxRecDepth 100000 in
theorem terms_any (A0 : Option Addr) (c0 : Nat) (l0 : List (List S42)) (w : World) (hr0 : Kd.C (Kd.slice 42 k42) w A0 l0.length l0) (hn : l0.length ≤ 2147483647) (hm : ∀ x ∈ l0, x.length ≤ 2147483647 ∧ ∀ t ∈ x, 0 ≤ t.f1) :
  Calls Tryd.prog 119 #[.slice A0 l0.length c0] w fun e w' => ∃ (v : Value) (L : List (List (S42 × Nat))), e = .returned v ∧ L.map (List.map Prod.fst) = l0 ∧ Kd.R (Kd.slice 92 kz) 139 w' w.heap.size (fun _ => True) v L ∧ Below w.heap.size w w' := by
 have hu42 := Tryd.underlying42
 have HR0 := Aside0.mk hr0
 have HM0 := Aside0.mk hm
 clear hr0 hm
 have HB := Aside0.mk (Below.refl w.heap.size w)
 go_enter Tryd.func119, Tryd.ntmps119
 go_wp2
 go_loopg [3, 11] l0.length (fun kq v3 v11 w' => ∃ (x : Int) (L : List (List (S42 × Nat))), v11 = .int .i64 x ∧ Aside0 (0 ≤ x ∧ x + kq = l0.length) ∧ Aside0 (L.map (List.map Prod.fst) = l0.take x.toNat) ∧ Aside0 (Kd.R (Kd.slice 92 kz) 139 w' w.heap.size (fun _ => True) v3 L) ∧ Aside0 (Below w.heap.size w w'))
 case atStart => exact ⟨0, [], rfl, ⟨by omega⟩, ⟨rfl⟩, ⟨Kd.R_nil _ _ _ _ _⟩, HB⟩
 case round =>
  obtain ⟨x, L, rfl, HX, HL, HO, HB⟩ := hrel
  have hx := HX.out
  by_cases c3 : x < (l0.length : Int)
  ·
   have c3b0 : decide (x < (l0.length : Int)) = true := decide_eq_true c3
   obtain ⟨k1, rfl⟩ : ∃ k1, gk = k1 + 1 := ⟨gk - 1, by omega⟩
   have p1 : 0 ≤ x := hx.1
   obtain ⟨ad1, A1, c1, e1, hx1, hl1, hi1⟩ := at_L5 HR0.out x p1 c3
   cases e1
   replace hx1 := (HB.out.cell (World.block_lt_of_cell? w _ hx1)).trans hx1
   have HR1 := Aside0.mk hi1
   have hmem : rd_L5 l0 x ∈ l0 := by
    unfold rd_L5
    rw [List.getD_eq_getElem?_getD, List.getElem?_eq_getElem (show x.toNat < l0.length by omega)]
    exact List.getElem_mem _
   have hm1 := HM0.out _ hmem
   have hxs : L.map (List.map Prod.fst) ++ [rd_L5 l0 x] = l0.take (x.toNat + 1) := by rw [HL.out, take_snoc l0 [] x.toNat (by omega)]; rfl
   have HXS := Aside0.mk hxs
   have HM1 := Aside0.mk hm1
   have hll : L.length = x.toNat := by have := congrArg List.length HL.out; rw [List.length_map, List.length_take] at this; omega
   have HLL : Aside0 (L.length < 2147483647) := ⟨by omega⟩
   have HX2 : Aside0 (0 ≤ x ∧ x + 1 + k1 = l0.length ∧ x < 2147483647) := ⟨by omega⟩
   generalize rd_L5 l0 x = xs at hx1 hl1 HR1 HXS HM1
   clear hi1 hmem hm1 hxs hll HL hx HX
   replace p1 := eq_true p1
   replace c3 := eq_true c3
   go_wp2
   go_loopg [6, 17] xs.length (fun kq v6 v17 w' => ∃ (y : Int) (ts : List (S42 × Nat)), v17 = .int .i64 y ∧ Aside0 (0 ≤ y ∧ y + kq = xs.length) ∧ Aside0 (ts.map Prod.fst = xs.take y.toNat) ∧ Aside0 (kz.R 92 w' w.heap.size (fun _ => True) v6 ts) ∧ Aside0 (Kd.R (Kd.slice 92 kz) 139 w' w.heap.size (fun k => True ∧ some k ≠ v6.ownBlock) u3 L) ∧ Aside0 (Below w.heap.size w w'))
   case atStart => exact ⟨0, [], rfl, ⟨by omega⟩, ⟨rfl⟩, ⟨Kd.R_nil _ _ _ _ _⟩, ⟨Kd.R_apart_nil HO.out⟩, HB⟩
   case round =>
    obtain ⟨y, ts, rfl, HY, HT, HTR, HOR, HB⟩ := hrel
    have hy := HY.out
    have htl : ts.length = y.toNat := fst_len HT.out (by omega)
    by_cases d3 : y < (xs.length : Int)
    ·
     have d3b0 : decide (y < (xs.length : Int)) = true := decide_eq_true d3
     obtain ⟨k2, rfl⟩ : ∃ k2, gk = k2 + 1 := ⟨gk - 1, by omega⟩
     have q1 : 0 ≤ y := hy.1
     obtain ⟨ad2, e2, hy0, hy1, hy2, hy3, hy4, hy5⟩ := at_T42 HR1.out y q1 d3
     cases e2
     replace hy0 := (HB.out.cell (World.block_lt_of_cell? w _ hy0)).trans hy0
     replace hy1 := (HB.out.cell (World.block_lt_of_cell? w _ hy1)).trans hy1
     replace hy2 := (HB.out.cell (World.block_lt_of_cell? w _ hy2)).trans hy2
     replace hy3 := (HB.out.cell (World.block_lt_of_cell? w _ hy3)).trans hy3
     replace hy4 := (HB.out.cell (World.block_lt_of_cell? w _ hy4)).trans hy4
     replace hy5 := (HB.out.cell (World.block_lt_of_cell? w _ hy5)).trans hy5
     have hmem : rd_T42 xs y ∈ xs := by
      unfold rd_T42
      rw [List.getD_eq_getElem?_getD, List.getElem?_eq_getElem (show y.toNat < xs.length by omega)]
      exact List.getElem_mem _
     have hg1 := HM1.out.2 _ hmem
     have hts : ts.map Prod.fst ++ [rd_T42 xs y] = xs.take (y.toNat + 1) := by rw [HT.out, take_snoc xs z42 y.toNat (by omega)]; rfl
     have HTS := Aside0.mk hts
     have HG1 := Aside0.mk hg1
     have HTL : Aside0 (ts.length < 2147483647) := ⟨by have := HM1.out.1; omega⟩
     have HY2 : Aside0 (0 ≤ y ∧ y + 1 + k2 = xs.length ∧ y < 2147483647) := ⟨by have := HM1.out.1; omega⟩
     clear hmem hg1 hts htl HT hy HY
     generalize rd_T42 xs y = tt at hy0 hy1 hy2 hy3 hy4 hy5 HTS HG1
     replace q1 := eq_true q1
     replace d3 := eq_true d3
     go_wp2_with (first
      | ((with_reducible refine gate_dst (N := 8) rfl ?_); refine box_event ?hg (N := 8) ?hd (cs := #[.int .i64 0, .int .i64 0, .int .u64 0, .int .u64 0, .int .u64 0, .string (⟨#[]⟩ : ByteArray)]) (t := 42) ?hr ?_; (case hd => rfl); (case hg => rfl); (case hr => first | (go_simp; done) | (go_simp; rfl)); intro gb hg wb hbox hb; have n0_ := Aside0.mk (below_step HB.out hb); have n1_ := Aside0.mk hbox; have n2_ : Aside0 (w.heap.size ≤ gb) := ⟨by rw [hg]; exact below_size HB.out⟩; have n3_ := Aside0.mk (Kd.R_below HTR.out hb); have n4_ := Aside0.mk (Kd.R_below HOR.out hb); clear HB HTR HOR; have HB := n0_; have BK := n1_; have GE := n2_; have HTR := n3_; have HOR := n4_; clear n0_ n1_ n2_ n3_ n4_; clear hb hbox hg; have hz0 : wb.cell? ⟨gb, 0, none⟩ = some (.int .i64 0) := (blk_cell BK.out 0).trans rfl; have hz1 : wb.cell? ⟨gb, 1, none⟩ = some (.int .i64 0) := (blk_cell BK.out 1).trans rfl; have hz2 : wb.cell? ⟨gb, 2, none⟩ = some (.int .u64 0) := (blk_cell BK.out 2).trans rfl; have hz3 : wb.cell? ⟨gb, 3, none⟩ = some (.int .u64 0) := (blk_cell BK.out 3).trans rfl; have hz4 : wb.cell? ⟨gb, 4, none⟩ = some (.int .u64 0) := (blk_cell BK.out 4).trans rfl; have hz5 : wb.cell? ⟨gb, 5, none⟩ = some (.string (⟨#[]⟩ : ByteArray)) := (blk_cell BK.out 5).trans rfl; have hf0 := blk_frozen BK.out 0; have hf1 := blk_frozen BK.out 1; have hf2 := blk_frozen BK.out 2; have hf3 := blk_frozen BK.out 3; have hf4 := blk_frozen BK.out 4; have hf5 := blk_frozen BK.out 5)
      | (go_at_call 94; (with_reducible refine (term_blk tt.f0 tt.f1 tt.f2 tt.f3 tt.f4 tt.f5 HG1.out _).mono ?_); rintro e w1 ⟨N, rfl, ⟨hP, hN⟩, hb⟩; have n0_ := Aside0.mk (below_step (B_box6 HB.out GE.out _ _ _ _ _ _) hb); have n1_ := Aside0.mk (Kd.R_below (R_box6 HTR.out BK.out (by decide) _ _ _ _ _ _) hb); have n2_ := Aside0.mk (Kd.R_below (R_box6 HOR.out BK.out (by decide) _ _ _ _ _ _) hb); have n3_ := Aside0.mk hP; have n4_ : Aside0 (w.heap.size ≤ N) := ⟨Nat.le_trans (below_size (B_box6 HB.out GE.out _ _ _ _ _ _)) hN⟩; clear HB HTR HOR hP hN hb; have HB := n0_; have HTR := n1_; have HOR := n2_; have HP := n3_; have HN := n4_; clear n0_ n1_ n2_ n3_ n4_)
      | ((with_reducible refine gate_builtin (b := .append) (xs := #[.tmp 21, .tmp 24]) rfl ?_); at_builtin; refine Kd.R_append kz (w0 := w) w.heap.size rfl (.tmp 21) (.tmp 24) 139 92 (.agg #[(.string ⟨#[]⟩), (.pointer none), (.bool false), (.bool false), (.bool false)]) 32 rfl Tryd.underlying139 info92 rfl (by decide) (by omega) u6 ts (tt, N) [.string (opText tt.f0), .pointer (some ⟨N, 0, none⟩), .bool (decide (tt.f1 < 3)), .bool (tt.f1 == 1), .bool (tt.f1 == 2)] (fun _ => True) (fun k => k = N) rfl rfl ?aP ?aK ?aF ?aO ?aB ?aS ?aL ?_; (case aP => exact ⟨rfl, HP.out, rfl, HN.out⟩); (case aK => exact (fun k hk => ⟨trivial, by rw [hk]; exact Kd.R_ne HTR.out HP.out (by decide)⟩)); (case aF => exact (fun _ _ => trivial)); (case aO => exact HTR.out); (case aB => exact HB.out); (case aS => exact below_size HB.out); (case aL => have := HTL.out; omega); intro v1 w2 ho hb hg hat; have n0_ := Aside0.mk hb; have n1_ := Aside0.mk ho; have n2_ := Aside0.mk (Kd.R_after HOR.out hg hat); clear HB HTR HOR ho hb hg hat; have HB := n0_; have HTR := n1_; have HOR := n2_; clear n0_ n1_ n2_))
     go_roundg k2
     case measure => omega
     case rel => exact ⟨wrap64 (y + 1), ts ++ [(tt, N)], rfl, ⟨by have := HY2.out; rw [IntWalk.wrap64_in _ (by omega)]; omega⟩, ⟨by have := HY2.out; rw [IntWalk.wrap64_in _ (by omega), List.map_append, show (y + 1).toNat = y.toNat + 1 by omega]; exact HTS.out⟩, HTR, HOR, HB⟩
    ·
     have d3b0 : decide (y < (xs.length : Int)) = false := decide_eq_false d3
     have hts : ts.map Prod.fst = xs := by rw [HT.out, show y.toNat = xs.length by omega, List.take_length]
     have HTS := Aside0.mk hts
     clear HT hts htl hy HY d3
     obtain ⟨Ai, ci, rfl⟩ := Kd.R_slice HTR.out
     go_wp2_with (first
      | ((with_reducible refine gate_builtin (b := .append) (xs := #[.tmp 27, .tmp 29]) rfl ?_); at_builtin; refine Kd.R_append (Kd.slice 92 kz) (w0 := w) w.heap.size rfl (.tmp 27) (.tmp 29) 115 139 (.slice none 0 0) 24 rfl Tryd.underlying115 info139 rfl (by decide) (by omega) u3 L ts [.slice Ai ts.length ci] (fun _ => True) (fun k => True ∧ some k ≠ u3.ownBlock) rfl rfl ?aP (fun _ hk => hk) ?aF ?aO ?aB ?aS ?aL ?_; (case aP => exact ⟨_, rfl, Kd.R_apartR HTR.out HOR.out (by decide)⟩); (case aF => exact (fun _ _ => trivial)); (case aO => exact Kd.R_drop HOR.out); (case aB => exact HB.out); (case aS => exact below_size HB.out); (case aL => have := HLL.out; omega); intro v1 w2 ho hb hg hat; have n0_ := Aside0.mk hb; have n1_ := Aside0.mk ho; clear HB HTR HOR ho hb hg hat; have HB := n0_; have HO := n1_; clear n0_ n1_))
     go_roundg k1
     case measure => omega
     case rel => exact ⟨wrap64 (x + 1), L ++ [ts], rfl, ⟨by have := HX2.out; rw [IntWalk.wrap64_in _ (by omega)]; omega⟩, ⟨by have := HX2.out; rw [IntWalk.wrap64_in _ (by omega), List.map_append, show (x + 1).toNat = x.toNat + 1 by omega, ← HXS.out, ← HTS.out]; rfl⟩, HO, HB⟩
  ·
   have c3b0 : decide (x < (l0.length : Int)) = false := decide_eq_false c3
   have hfin : L.map (List.map Prod.fst) = l0 := by rw [HL.out, show x.toNat = l0.length by omega, List.take_length]
   clear HL
   go_wp2
   go_ret
   exact ⟨_, rfl, L, hfin, HO.out, HB.out⟩
end Go.Proofs.YtalpehfjjidfhaaDoor.Hand
