-- Written by a program of this session (wip/tools/myprint.py over the kit's print), the functions that the print MP has not.
import Derived.Test.YtalpehfjjidfhaaDoorMPx5
import Derived.Test.YtalpehfjjidfhaaDoorWRest
namespace Go.Proofs.YtalpehfjjidfhaaDoor.MP
open Go.RowKit Go.Proofs.YtalpehfjjidfhaaDoorW.PrintWords Go.Proofs.YtalpehfjjidfhaaDoorW.PrintLast Go.Proofs.YtalpehfjjidfhaaDoorW.PrintMore Go.Proofs.YtalpehfjjidfhaaDoor
attribute [local go_sem] max2_int min2_int max_two min_two max_three min_three max_four min_four   -- for this text's walks alone
set_option linter.unusedVariables false
set_option linter.unusedSimpArgs false
theorem info42 : (Tryd.prog.info? 42).map (fun i => (i.zero, i.size, i.bytes)) = some (some (.agg #[(.int .i64 0), (.int .i64 0), (.int .u64 0), (.int .u64 0), (.int .u64 0), (.string ⟨#[]⟩)]), 6, 56) := by kernel_rfl
theorem info73 : (Tryd.prog.info? 73).map (fun i => (i.zero, i.size, i.bytes)) = some (some (.slice none 0 0), 1, 24) := by kernel_rfl
theorem k42_mkM (w : World) (base : Nat) (ok : Nat → Prop) (x : S42)  : k42.M w base ok x [.int .i64 x.f0, .int .i64 x.f1, .int .u64 x.f2, .int .u64 x.f3, .int .u64 x.f4, .string x.f5] := ⟨[.int .i64 x.f0], [.int .i64 x.f1, .int .u64 x.f2, .int .u64 x.f3, .int .u64 x.f4, .string x.f5], rfl, rfl, ⟨[.int .i64 x.f1], [.int .u64 x.f2, .int .u64 x.f3, .int .u64 x.f4, .string x.f5], rfl, rfl, ⟨[.int .u64 x.f2], [.int .u64 x.f3, .int .u64 x.f4, .string x.f5], rfl, rfl, ⟨[.int .u64 x.f3], [.int .u64 x.f4, .string x.f5], rfl, rfl, ⟨[.int .u64 x.f4], [.string x.f5], rfl, rfl, rfl⟩⟩⟩⟩⟩
def rd_L6 (xs : List (List (List S42))) (i : Int) : (List (List S42)) := xs.getD i.toNat ([] : List (List S42))
theorem at_L6 {w : World} {A : Option Addr} {n : Nat} {xs : List (List (List S42))} (h : Kd.C (Kd.slice 73 (Kd.slice 42 k42)) w A n xs) (i : Int) (h0 : 0 ≤ i) (h1 : i < n) : ∃ ad A0 c0, A = some ad ∧ w.cell? (ad.add i.toNat) = some (.slice A0 (rd_L6 xs i).length c0) ∧ (rd_L6 xs i).length ≤ c0 ∧ (Kd.slice 42 k42).C w A0 (rd_L6 xs i).length (rd_L6 xs i) := by
 obtain ⟨ad, c, e, _, hK, hc0⟩ := Kd.C_get h ([] : List (List S42)) i h0 h1
 have hc : ∀ j u, c[j]? = some u → w.cell? (ad.add (i.toNat * 1 + j)) = some u := hc0
 obtain ⟨A0, c0, rfl, l0, g0⟩ := hK
 exact ⟨ad, A0, c0, e, by have hq := hc 0 _ rfl; rwa [Nat.mul_one, Nat.add_zero] at hq, l0, g0⟩
/-! ### spec_Bare: function 48 -/
def spec_Bare.f (a0_0 : Int) (a0_1 : Int) (a0_2 : Int) (a0_3 : ByteArray) (a0_4 : ByteArray) : Option (Int × Int × Int × ByteArray × ByteArray) := some (a0_0, a0_1, a0_2, (⟨#[]⟩ : ByteArray), (⟨#[]⟩ : ByteArray))
set_option maxHeartbeats 8000000 in
set_option maxRecDepth 100000 in
theorem spec_Bare.calls (a0_0 : Int) (a0_1 : Int) (a0_2 : Int) (a0_3 : ByteArray) (a0_4 : ByteArray) (r1 : Int) (r2 : Int) (r3 : Int) (r4 : ByteArray) (r5 : ByteArray) (w : World) (h : spec_Bare.f a0_0 a0_1 a0_2 a0_3 a0_4 = some (r1, r2, r3, r4, r5)) :
  Calls Tryd.prog 48 #[.agg #[.int .u64 a0_0, .int .u64 a0_1, .int .u64 a0_2, .string a0_3, .string a0_4]] w fun e w' => e = .returned (.agg #[.int .u64 r1, .int .u64 r2, .int .u64 r3, .string r4, .string r5]) ∧ Below w.heap.size w w' := by
 have hu29 := Tryd.underlying29
 have HB := Aside0.mk (Below.refl w.heap.size w)
 have H : (some (a0_0, a0_1, a0_2, (⟨#[]⟩ : ByteArray), (⟨#[]⟩ : ByteArray))) = some (r1, r2, r3, r4, r5) := h
 clear h
 simp only [Option.some.injEq, Prod.mk.injEq] at H
 obtain ⟨rfl, rfl, rfl, rfl, rfl⟩ := H
 go_enter Tryd.func48, Tryd.ntmps48
 go_wp2_with (first | ((with_reducible refine gate_dst (N := 1) rfl ?_); refine box_event ?hg (N := 1) ?hd (cs := #[.int .u64 a0_0, .int .u64 a0_1, .int .u64 a0_2, .string a0_3, .string a0_4]) (t := 29) ?hr ?_; (case hd => rfl); (case hg => rfl); (case hr => first | (go_simp; done) | (go_simp; rfl)); intro gb102 hg w2 hbox hb; have n0_ := Aside0.mk (below_step (hbl HB.out) hb); have n1_ := Aside0.mk (hbox); have n2_ := Aside0.mk ((by rw [hg]; exact (below_size (hbl HB.out)) : w.heap.size ≤ gb102)); have n3_ := Aside0.mk ((by rw [hg]; exact (below_size (hbl HB.out)) : w.heap.size ≤ gb102)); clear HB; have HB := n0_; have BK102 := n1_; have GW102 := n2_; have GE102 := n3_; clear n0_ n1_ n2_ n3_; clear hb hbox hg) | ((with_reducible refine gate_dst (N := 2) rfl ?_); refine box_event ?hg (N := 2) ?hd (cs := #[.int .u64 0, .int .u64 0, .int .u64 0, .string (⟨#[]⟩ : ByteArray), .string (⟨#[]⟩ : ByteArray)]) (t := 29) ?hr ?_; (case hd => rfl); (case hg => rfl); (case hr => first | (go_simp; done) | (go_simp; rfl)); intro gb103 hg w3 hbox hb; have n0_ := Aside0.mk (blk_below (hbk BK102.out) hb); have n1_ := Aside0.mk (below_step (hbl HB.out) hb); have n2_ := Aside0.mk (hbox); have n3_ := Aside0.mk ((by rw [hg]; exact (below_size (hbl HB.out)) : w.heap.size ≤ gb103)); have n4_ := Aside0.mk ((by rw [hg]; exact (below_size (hbl HB.out)) : w.heap.size ≤ gb103)); have n5_ := Aside0.mk ((by rw [hg]; exact Nat.ne_of_lt (blk_lt (hbk BK102.out)) : gb102 ≠ gb103)); have n6_ := Aside0.mk ((by rw [hg]; exact Nat.ne_of_gt (blk_lt (hbk BK102.out)) : gb103 ≠ gb102)); clear BK102; clear HB; have BK102 := n0_; have HB := n1_; have BK103 := n2_; have GW103 := n3_; have GE103 := n4_; have NB102_103 := n5_; have NB103_102 := n6_; clear n0_ n1_ n2_ n3_ n4_ n5_ n6_; clear hb hbox hg; have hnb4 := NB102_103.out; have hnc4 := NB103_102.out; have hcz5_0 : w3.cell? ⟨gb102, 0, none⟩ = some (.int .u64 a0_0) := (blk_cell BK102.out 0).trans rfl; have hcz5_1 : w3.cell? ⟨gb102, 1, none⟩ = some (.int .u64 a0_1) := (blk_cell BK102.out 1).trans rfl; have hcz5_2 : w3.cell? ⟨gb102, 2, none⟩ = some (.int .u64 a0_2) := (blk_cell BK102.out 2).trans rfl; have hcz5_3 : w3.cell? ⟨gb102, 3, none⟩ = some (.string a0_3) := (blk_cell BK102.out 3).trans rfl; have hcz5_4 : w3.cell? ⟨gb102, 4, none⟩ = some (.string a0_4) := (blk_cell BK102.out 4).trans rfl; have hfz5_0 := blk_frozen BK102.out 0; have hfz5_1 := blk_frozen BK102.out 1; have hfz5_2 := blk_frozen BK102.out 2; have hfz5_3 := blk_frozen BK102.out 3; have hfz5_4 := blk_frozen BK102.out 4; have hcz6_0 : w3.cell? ⟨gb103, 0, none⟩ = some (.int .u64 0) := (blk_cell BK103.out 0).trans rfl; have hcz6_1 : w3.cell? ⟨gb103, 1, none⟩ = some (.int .u64 0) := (blk_cell BK103.out 1).trans rfl; have hcz6_2 : w3.cell? ⟨gb103, 2, none⟩ = some (.int .u64 0) := (blk_cell BK103.out 2).trans rfl; have hcz6_3 : w3.cell? ⟨gb103, 3, none⟩ = some (.string (⟨#[]⟩ : ByteArray)) := (blk_cell BK103.out 3).trans rfl; have hcz6_4 : w3.cell? ⟨gb103, 4, none⟩ = some (.string (⟨#[]⟩ : ByteArray)) := (blk_cell BK103.out 4).trans rfl; have hfz6_0 := blk_frozen BK103.out 0; have hfz6_1 := blk_frozen BK103.out 1; have hfz6_2 := blk_frozen BK103.out 2; have hfz6_3 := blk_frozen BK103.out 3; have hfz6_4 := blk_frozen BK103.out 4))
 refine bodyPost_ret (results_cell_row rfl _ _ gb103 29 #[.int .u64 a0_0, .int .u64 a0_1, .int .u64 a0_2, .string (⟨#[]⟩ : ByteArray), .string (⟨#[]⟩ : ByteArray)] (0, 0) _ rfl (by (with_reducible repeat (first | refine blk_drewN ?_ _ | refine blk_drew ?_ | refine blk_alloc ?_ _)); refine blk_put (cs := #[.int .u64 a0_0, .int .u64 a0_1, .int .u64 a0_2, .string (⟨#[]⟩ : ByteArray), .string (⟨#[]⟩ : ByteArray)]) ?_ 4 _ rfl; (with_reducible repeat (first | refine blk_drewN ?_ _ | refine blk_drew ?_ | refine blk_alloc ?_ _)); refine blk_put (cs := #[.int .u64 a0_0, .int .u64 a0_1, .int .u64 a0_2, .string (⟨#[]⟩ : ByteArray), .string (⟨#[]⟩ : ByteArray)]) ?_ 3 _ rfl; (with_reducible repeat (first | refine blk_drewN ?_ _ | refine blk_drew ?_ | refine blk_alloc ?_ _)); refine blk_put (cs := #[.int .u64 a0_0, .int .u64 a0_1, .int .u64 0, .string (⟨#[]⟩ : ByteArray), .string (⟨#[]⟩ : ByteArray)]) ?_ 2 _ rfl; (with_reducible repeat (first | refine blk_drewN ?_ _ | refine blk_drew ?_ | refine blk_alloc ?_ _)); refine blk_put (cs := #[.int .u64 a0_0, .int .u64 0, .int .u64 0, .string (⟨#[]⟩ : ByteArray), .string (⟨#[]⟩ : ByteArray)]) ?_ 1 _ rfl; (with_reducible repeat (first | refine blk_drewN ?_ _ | refine blk_drew ?_ | refine blk_alloc ?_ _)); refine blk_put (cs := #[.int .u64 0, .int .u64 0, .int .u64 0, .string (⟨#[]⟩ : ByteArray), .string (⟨#[]⟩ : ByteArray)]) ?_ 0 _ rfl; (with_reducible repeat (first | refine blk_drewN ?_ _ | refine blk_drew ?_ | refine blk_alloc ?_ _)); exact BK103.out) Tryd.underlying29 rfl (by kernel_rfl)) rfl ?_
 exact ⟨hrf, hbl HB.out⟩


/-! ### laws_siGood: function 68 -/
def laws_siGood.l0 : Nat → List (List (List (S42))) → Int → Int → Option (Bool)
 | 0, _, _, _ => none
 | k + 1, x5, x6, x7 => if x7 < x6 then (if 0 ≤ x7 then (if x7 < (x5.length : Int) then ((spec_GoodTerms.f k (rd_L6 x5 x7) 10).bind fun t142 => (if t142 = true then ((laws_scGood.f k (rd_L6 x5 x7)).bind fun t143 => (if t143 = true then (laws_siGood.l0 k x5 x6 (wrap64 (x7 + 1))) else (some false))) else (some false))) else (none)) else (none)) else (some true)
def laws_siGood.f (k : Nat) (l0 : List (List (List (S42)))) : Option (Bool) := laws_siGood.l0 k l0 (l0.length : Int) 0
theorem laws_siGood.mono_l : ∀ k, (∀ y0 y1 y2, LeO (laws_siGood.l0 k y0 y1 y2) (laws_siGood.l0 (k + 1) y0 y1 y2))
 | 0 => fun _ _ _ r h => by simp [laws_siGood.l0] at h
 | k + 1 => by
  have ih0 := laws_siGood.mono_l k
  ·
   intro y0 y1 y2
   unfold laws_siGood.l0
   repeat' first
   | (with_reducible exact ih0 _ _ _)
   | (with_reducible exact laws_scGood.mono _ _)
   | (with_reducible exact spec_GoodTerms.mono _ _ _)
   | (with_reducible exact LeO.refl _)
   | (with_reducible exact LeO.none _)
   | (with_reducible refine LeO.ite ?_ ?_)
   | (with_reducible refine LeO.bind ?_ (fun _ => ?_))
   | exact ih0 _ _ _
   | exact laws_scGood.mono _ _
   | exact spec_GoodTerms.mono _ _ _
   | exact LeO.none _
   | refine LeO.ite ?_ ?_
   | refine LeO.bind ?_ (fun _ => ?_)
theorem laws_siGood.mono : ∀ a0 k, LeO (laws_siGood.f k a0) (laws_siGood.f (k + 1) a0) := by
 intro a0 k
 have ih0 := laws_siGood.mono_l k
 unfold laws_siGood.f
 repeat' first
   | (with_reducible exact ih0 _ _ _)
   | (with_reducible exact laws_scGood.mono _ _)
   | (with_reducible exact spec_GoodTerms.mono _ _ _)
   | (with_reducible exact LeO.refl _)
   | (with_reducible exact LeO.none _)
   | (with_reducible refine LeO.ite ?_ ?_)
   | (with_reducible refine LeO.bind ?_ (fun _ => ?_))
   | exact ih0 _ _ _
   | exact laws_scGood.mono _ _
   | exact spec_GoodTerms.mono _ _ _
   | exact LeO.none _
   | refine LeO.ite ?_ ?_
   | refine LeO.bind ?_ (fun _ => ?_)
set_option maxHeartbeats 8000000 in
set_option maxRecDepth 100000 in
theorem laws_siGood.calls (k : Nat) (A0 : Option Addr) (c0 : Nat) (l0 : List (List (List (S42)))) (r : Bool) (w : World) (hr0 : Kd.C (Kd.slice 73 (Kd.slice 42 k42)) w A0 l0.length l0) (hc0 : l0.length ≤ c0) (h : laws_siGood.f k l0 = some r) :
  Calls Tryd.prog 68 #[.slice A0 l0.length c0] w fun e w' => e = .returned (.bool r) ∧ Below w.heap.size w w' := by
 have HR0 := Aside0.mk hr0
 have HC0 := Aside0.mk hc0
 clear hr0 hc0
 have HB := Aside0.mk (Below.refl w.heap.size w)
 have H : (laws_siGood.l0 k l0 (l0.length : Int) 0) = some r := h
 clear h
 have H' := Aside0.mk H
 clear H
 go_enter Tryd.func68, Tryd.ntmps68
 go_wp2
 go_loopg [7] k (fun kq v7 w' => ∃ (x7_1 : Int), v7 = .int .i64 x7_1 ∧ Aside0 (laws_siGood.l0 kq l0 (l0.length : Int) x7_1 = some r) ∧ Aside0 (kq ≤ k) ∧ Aside0 (Below w.heap.size w w'))
 case atStart => exact ⟨(0), hrf, H', ⟨Nat.le_refl _⟩, ⟨hbl HB.out⟩⟩
 case round =>
  clear H'
  obtain ⟨x7_1, rfl, HA, HK1, HB⟩ := hrel
  cases gk with
  | zero => exact absurd HA.out (by simp [laws_siGood.l0])
  | succ k1 =>
   have H := HA.out
   clear HA
   simp only [laws_siGood.l0] at H
   by_cases c2 : x7_1 < (l0.length : Int)
   ·
    rw [if_pos c2] at H
    have c2b0 : decide (x7_1 < (l0.length : Int)) = true := decide_eq_true c2
    clear c2
    by_cases c3 : 0 ≤ x7_1
    ·
     rw [if_pos c3] at H
     have c3b0 : decide (0 ≤ x7_1) = true := decide_eq_true c3
     clear c3
     by_cases c4 : x7_1 < (l0.length : Int)
     ·
      rw [if_pos c4] at H
      have c4b0 : decide (x7_1 < (l0.length : Int)) = true := decide_eq_true c4
      clear c4
      replace H := Option.bind_eq_some_iff.mp H
      obtain ⟨t142, A50, H⟩ := H
      replace H : (if t142 = true then ((laws_scGood.f k1 (rd_L6 l0 x7_1)).bind fun t143 => (if t143 = true then (laws_siGood.l0 k1 l0 (l0.length : Int) (wrap64 (x7_1 + 1))) else (some false))) else (some false)) = some r := H
      have A5 := Aside0.mk A50
      clear A50
      by_cases c6 : t142 = true
      ·
       subst c6
       have H1 : ((laws_scGood.f k1 (rd_L6 l0 x7_1)).bind fun t143 => (if t143 = true then (laws_siGood.l0 k1 l0 (l0.length : Int) (wrap64 (x7_1 + 1))) else (some false))) = some r := by rw [if_pos rfl] at H; exact H
       clear H
       have H := H1
       clear H1
       replace H := Option.bind_eq_some_iff.mp H
       obtain ⟨t143, A70, H⟩ := H
       replace H : (if t143 = true then (laws_siGood.l0 k1 l0 (l0.length : Int) (wrap64 (x7_1 + 1))) else (some false)) = some r := H
       have A7 := Aside0.mk A70
       clear A70
       by_cases c8 : t143 = true
       ·
        subst c8
        have H1 : (laws_siGood.l0 k1 l0 (l0.length : Int) (wrap64 (x7_1 + 1))) = some r := by rw [if_pos rfl] at H; exact H
        clear H
        have H := H1
        clear H1
        have H' := Aside0.mk H
        clear H
        have p141 : 0 ≤ (x7_1 : Int) := of_decide_eq_true (by assumption)
        have q141 : x7_1 < (l0.length : Int) := of_decide_eq_true (by assumption)
        obtain ⟨ad141, A141_0, c141_0, e141, hx141_0, hl141_0, hi141_0⟩ := at_L6 HR0.out x7_1 p141 q141
        cases e141
        replace hx141_0 := (HB.out.cell (World.block_lt_of_cell? w _ hx141_0)).trans hx141_0
        have HR141_0 := Aside0.mk hi141_0
        have HC141_0 := Aside0.mk hl141_0
        clear hi141_0 hl141_0
        replace p141 := eq_true p141
        replace q141 := eq_true q141
        go_wp2_with (first | ((with_reducible refine gate_callee (f := 115) rfl ?_); refine goesL_ (some 12) rfl rfl Tryd.func115 (by kernel_rfl) rfl #[.slice A141_0 (rd_L6 l0 x7_1).length c141_0, .int .i64 10] rfl (by (try simp only [List.map_toArray, List.map_cons, List.map_nil]); first | done | rfl | (simp only [List.length_drop, List.length_take]; rfl)) ?_; (with_reducible refine (spec_GoodTerms.calls k1 _ _ (rd_L6 l0 x7_1) 10 true _ ?side1 ?side2 A5.out).mono ?_); (case side1 => repeat (first | exact (Kd.C_below HR141_0.out HB.out) | (with_reducible refine Kd.C_alloc ?_ _) | (with_reducible refine Kd.C_drewN ?_ _) | (with_reducible refine Kd.C_drew ?_))); (case side2 => exact HC141_0.out); rintro e w9 ⟨rfl, hb⟩; refine ⟨_, rfl, ?_⟩; have n0_ := Aside0.mk (below_step (hbl HB.out) hb); clear HB; have HB := n0_; clear n0_; (try clear hb); (try clear hb2); (try clear hk); (try clear hi)) | (go_at_call 74; (with_reducible refine (laws_scGood.calls k1 _ _ (rd_L6 l0 x7_1) true _ ?side1 ?side2 A7.out).mono ?_); (case side1 => repeat (first | exact (Kd.C_below HR141_0.out HB.out) | (with_reducible refine Kd.C_alloc ?_ _) | (with_reducible refine Kd.C_drewN ?_ _) | (with_reducible refine Kd.C_drew ?_))); (case side2 => exact HC141_0.out); rintro e w10 ⟨rfl, hb⟩; have n0_ := Aside0.mk (below_step (hbl HB.out) hb); clear HB; have HB := n0_; clear n0_; (try clear hb); (try clear hb2); (try clear hk); (try clear hi)))
        go_roundg k1
        case measure => have := HK1.out; omega
        case rel => exact ⟨(wrap64 (x7_1 + 1)), hrf, H', ⟨by have := HK1.out; omega⟩, ⟨hbl HB.out⟩⟩
       ·
        replace c8 := Bool.eq_false_iff.mpr c8
        subst c8
        have H1 : (some false) = some r := by rw [if_neg (show ¬ (false = true) by decide)] at H; exact H
        clear H
        have H := H1
        clear H1
        obtain rfl := Option.some.inj H
        have p141 : 0 ≤ (x7_1 : Int) := of_decide_eq_true (by assumption)
        have q141 : x7_1 < (l0.length : Int) := of_decide_eq_true (by assumption)
        obtain ⟨ad141, A141_0, c141_0, e141, hx141_0, hl141_0, hi141_0⟩ := at_L6 HR0.out x7_1 p141 q141
        cases e141
        replace hx141_0 := (HB.out.cell (World.block_lt_of_cell? w _ hx141_0)).trans hx141_0
        have HR141_0 := Aside0.mk hi141_0
        have HC141_0 := Aside0.mk hl141_0
        clear hi141_0 hl141_0
        replace p141 := eq_true p141
        replace q141 := eq_true q141
        go_wp2_with (first | ((with_reducible refine gate_callee (f := 115) rfl ?_); refine goesL_ (some 12) rfl rfl Tryd.func115 (by kernel_rfl) rfl #[.slice A141_0 (rd_L6 l0 x7_1).length c141_0, .int .i64 10] rfl (by (try simp only [List.map_toArray, List.map_cons, List.map_nil]); first | done | rfl | (simp only [List.length_drop, List.length_take]; rfl)) ?_; (with_reducible refine (spec_GoodTerms.calls k1 _ _ (rd_L6 l0 x7_1) 10 true _ ?side1 ?side2 A5.out).mono ?_); (case side1 => repeat (first | exact (Kd.C_below HR141_0.out HB.out) | (with_reducible refine Kd.C_alloc ?_ _) | (with_reducible refine Kd.C_drewN ?_ _) | (with_reducible refine Kd.C_drew ?_))); (case side2 => exact HC141_0.out); rintro e w11 ⟨rfl, hb⟩; refine ⟨_, rfl, ?_⟩; have n0_ := Aside0.mk (below_step (hbl HB.out) hb); clear HB; have HB := n0_; clear n0_; (try clear hb); (try clear hb2); (try clear hk); (try clear hi)) | (go_at_call 74; (with_reducible refine (laws_scGood.calls k1 _ _ (rd_L6 l0 x7_1) false _ ?side1 ?side2 A7.out).mono ?_); (case side1 => repeat (first | exact (Kd.C_below HR141_0.out HB.out) | (with_reducible refine Kd.C_alloc ?_ _) | (with_reducible refine Kd.C_drewN ?_ _) | (with_reducible refine Kd.C_drew ?_))); (case side2 => exact HC141_0.out); rintro e w12 ⟨rfl, hb⟩; have n0_ := Aside0.mk (below_step (hbl HB.out) hb); clear HB; have HB := n0_; clear n0_; (try clear hb); (try clear hb2); (try clear hk); (try clear hi)))
        go_ret
        exact ⟨hrf, hbl HB.out⟩
      ·
       replace c6 := Bool.eq_false_iff.mpr c6
       subst c6
       have H1 : (some false) = some r := by rw [if_neg (show ¬ (false = true) by decide)] at H; exact H
       clear H
       have H := H1
       clear H1
       obtain rfl := Option.some.inj H
       have p141 : 0 ≤ (x7_1 : Int) := of_decide_eq_true (by assumption)
       have q141 : x7_1 < (l0.length : Int) := of_decide_eq_true (by assumption)
       obtain ⟨ad141, A141_0, c141_0, e141, hx141_0, hl141_0, hi141_0⟩ := at_L6 HR0.out x7_1 p141 q141
       cases e141
       replace hx141_0 := (HB.out.cell (World.block_lt_of_cell? w _ hx141_0)).trans hx141_0
       have HR141_0 := Aside0.mk hi141_0
       have HC141_0 := Aside0.mk hl141_0
       clear hi141_0 hl141_0
       replace p141 := eq_true p141
       replace q141 := eq_true q141
       go_wp2_with (first | ((with_reducible refine gate_callee (f := 115) rfl ?_); refine goesL_ (some 12) rfl rfl Tryd.func115 (by kernel_rfl) rfl #[.slice A141_0 (rd_L6 l0 x7_1).length c141_0, .int .i64 10] rfl (by (try simp only [List.map_toArray, List.map_cons, List.map_nil]); first | done | rfl | (simp only [List.length_drop, List.length_take]; rfl)) ?_; (with_reducible refine (spec_GoodTerms.calls k1 _ _ (rd_L6 l0 x7_1) 10 false _ ?side1 ?side2 A5.out).mono ?_); (case side1 => repeat (first | exact (Kd.C_below HR141_0.out HB.out) | (with_reducible refine Kd.C_alloc ?_ _) | (with_reducible refine Kd.C_drewN ?_ _) | (with_reducible refine Kd.C_drew ?_))); (case side2 => exact HC141_0.out); rintro e w13 ⟨rfl, hb⟩; refine ⟨_, rfl, ?_⟩; have n0_ := Aside0.mk (below_step (hbl HB.out) hb); clear HB; have HB := n0_; clear n0_; (try clear hb); (try clear hb2); (try clear hk); (try clear hi)))
       go_ret
       exact ⟨hrf, hbl HB.out⟩
     ·
      rw [if_neg c4] at H
      exact absurd H (by simp)
    ·
     rw [if_neg c3] at H
     exact absurd H (by simp)
   ·
    rw [if_neg c2] at H
    have c2b0 : decide (x7_1 < (l0.length : Int)) = false := decide_eq_false c2
    clear c2
    obtain rfl := Option.some.inj H
    go_wp2
    go_ret
    exact ⟨hrf, hbl HB.out⟩


/-! ### spec_Opposite: function 116 -/
def spec_Opposite.f (a0 : Int) : Option (Int × Bool) := if a0 = 0 then (some (1, true)) else (if a0 = 1 then (some (0, true)) else (if a0 = 2 then (some (5, true)) else (if a0 = 5 then (some (2, true)) else (if a0 = 3 then (some (4, true)) else (if a0 = 4 then (some (3, true)) else (some (a0, false)))))))
set_option maxHeartbeats 8000000 in
set_option maxRecDepth 100000 in
theorem spec_Opposite.calls (a0 : Int) (r1 : Int) (r2 : Bool) (w : World) (h : spec_Opposite.f a0 = some (r1, r2)) :
  Calls Tryd.prog 116 #[.int .i64 a0] w fun e w' => e = .returned (.tuple #[.int .i64 r1, .bool r2]) ∧ Drawn0 w w' := by
 have H : (if a0 = 0 then (some (1, true)) else (if a0 = 1 then (some (0, true)) else (if a0 = 2 then (some (5, true)) else (if a0 = 5 then (some (2, true)) else (if a0 = 3 then (some (4, true)) else (if a0 = 4 then (some (3, true)) else (some (a0, false)))))))) = some (r1, r2) := h
 clear h
 by_cases c2 : a0 = 0
 ·
  rw [if_pos c2] at H
  have c2b0 : (a0 == 0) = true := beq_iff_eq.mpr c2
  have c2b1 : (a0 != 0) = false := bne_eq_false_iff_eq.mpr c2
  clear c2
  simp only [Option.some.injEq, Prod.mk.injEq] at H
  obtain ⟨rfl, rfl⟩ := H
  go_enter Tryd.func116, Tryd.ntmps116
  go_wp2
  go_ret2
  exact ⟨hrfb, by repeat (first | exact Drawn0.refl _ | apply Drawn0.step)⟩
 ·
  rw [if_neg c2] at H
  have c2b0 : (a0 == 0) = false := beq_eq_false_iff_ne.mpr c2
  have c2b1 : (a0 != 0) = true := bne_iff_ne.mpr c2
  by_cases c3 : a0 = 1
  ·
   rw [if_pos c3] at H
   have c3b0 : (a0 == 1) = true := beq_iff_eq.mpr c3
   have c3b1 : (a0 != 1) = false := bne_eq_false_iff_eq.mpr c3
   clear c3
   simp only [Option.some.injEq, Prod.mk.injEq] at H
   obtain ⟨rfl, rfl⟩ := H
   go_enter Tryd.func116, Tryd.ntmps116
   go_wp2
   go_ret2
   exact ⟨hrfb, by repeat (first | exact Drawn0.refl _ | apply Drawn0.step)⟩
  ·
   rw [if_neg c3] at H
   have c3b0 : (a0 == 1) = false := beq_eq_false_iff_ne.mpr c3
   have c3b1 : (a0 != 1) = true := bne_iff_ne.mpr c3
   by_cases c4 : a0 = 2
   ·
    rw [if_pos c4] at H
    have c4b0 : (a0 == 2) = true := beq_iff_eq.mpr c4
    have c4b1 : (a0 != 2) = false := bne_eq_false_iff_eq.mpr c4
    clear c4
    simp only [Option.some.injEq, Prod.mk.injEq] at H
    obtain ⟨rfl, rfl⟩ := H
    go_enter Tryd.func116, Tryd.ntmps116
    go_wp2
    go_ret2
    exact ⟨hrfb, by repeat (first | exact Drawn0.refl _ | apply Drawn0.step)⟩
   ·
    rw [if_neg c4] at H
    have c4b0 : (a0 == 2) = false := beq_eq_false_iff_ne.mpr c4
    have c4b1 : (a0 != 2) = true := bne_iff_ne.mpr c4
    by_cases c5 : a0 = 5
    ·
     rw [if_pos c5] at H
     have c5b0 : (a0 == 5) = true := beq_iff_eq.mpr c5
     have c5b1 : (a0 != 5) = false := bne_eq_false_iff_eq.mpr c5
     clear c5
     simp only [Option.some.injEq, Prod.mk.injEq] at H
     obtain ⟨rfl, rfl⟩ := H
     go_enter Tryd.func116, Tryd.ntmps116
     go_wp2
     go_ret2
     exact ⟨hrfb, by repeat (first | exact Drawn0.refl _ | apply Drawn0.step)⟩
    ·
     rw [if_neg c5] at H
     have c5b0 : (a0 == 5) = false := beq_eq_false_iff_ne.mpr c5
     have c5b1 : (a0 != 5) = true := bne_iff_ne.mpr c5
     by_cases c6 : a0 = 3
     ·
      rw [if_pos c6] at H
      have c6b0 : (a0 == 3) = true := beq_iff_eq.mpr c6
      have c6b1 : (a0 != 3) = false := bne_eq_false_iff_eq.mpr c6
      clear c6
      simp only [Option.some.injEq, Prod.mk.injEq] at H
      obtain ⟨rfl, rfl⟩ := H
      go_enter Tryd.func116, Tryd.ntmps116
      go_wp2
      go_ret2
      exact ⟨hrfb, by repeat (first | exact Drawn0.refl _ | apply Drawn0.step)⟩
     ·
      rw [if_neg c6] at H
      have c6b0 : (a0 == 3) = false := beq_eq_false_iff_ne.mpr c6
      have c6b1 : (a0 != 3) = true := bne_iff_ne.mpr c6
      by_cases c7 : a0 = 4
      ·
       rw [if_pos c7] at H
       have c7b0 : (a0 == 4) = true := beq_iff_eq.mpr c7
       have c7b1 : (a0 != 4) = false := bne_eq_false_iff_eq.mpr c7
       clear c7
       simp only [Option.some.injEq, Prod.mk.injEq] at H
       obtain ⟨rfl, rfl⟩ := H
       go_enter Tryd.func116, Tryd.ntmps116
       go_wp2
       go_ret2
       exact ⟨hrfb, by repeat (first | exact Drawn0.refl _ | apply Drawn0.step)⟩
      ·
       rw [if_neg c7] at H
       have c7b0 : (a0 == 4) = false := beq_eq_false_iff_ne.mpr c7
       have c7b1 : (a0 != 4) = true := bne_iff_ne.mpr c7
       simp only [Option.some.injEq, Prod.mk.injEq] at H
       obtain ⟨rfl, rfl⟩ := H
       go_enter Tryd.func116, Tryd.ntmps116
       go_wp2
       go_ret2
       exact ⟨hrfb, by repeat (first | exact Drawn0.refl _ | apply Drawn0.step)⟩


/-! ### spec_Cross: function 117 -/
mutual
def spec_Cross.l0 : Nat → List (List (S42)) → List (List (S42)) → List (List (S42)) → Int → Int → Option ((List (List (S42))))
 | 0, _, _, _, _, _ => none
 | k + 1, x1, x5, x10, x11, x12 => if x12 < x11 then (if 0 ≤ x12 then (if x12 < (x10.length : Int) then (spec_Cross.l1 k x1 x5 (rd_L5 x10 x12) x10 x11 x12 x1 (x1.length : Int) 0) else (none)) else (none)) else (some x5)
def spec_Cross.l1 : Nat → List (List (S42)) → List (List (S42)) → List (S42) → List (List (S42)) → Int → Int → List (List (S42)) → Int → Int → Option ((List (List (S42))))
 | 0, _, _, _, _, _, _, _, _, _ => none
 | k + 1, x1, x5, x7, x10, x11, x12, x16, x17, x18 => if x18 < x17 then (if 0 ≤ x18 then (if x18 < (x16.length : Int) then ((some (([] : List (S42)) : List (S42))).bind fun y146 => (if y146.length + x7.length < 2513169434916 then ((some (y146 ++ x7 : List (S42))).bind fun y149 => (if y149.length + (rd_L5 x16 x18).length < 2513169434916 then (if x5.length < 5864062014805 then (spec_Cross.l1 k x1 (x5 ++ [(y149 ++ (rd_L5 x16 x18))]) x7 x10 x11 x12 x16 x17 (wrap64 (x18 + 1))) else (none)) else (none))) else (none))) else (none)) else (none)) else (spec_Cross.l0 k x1 x5 x10 x11 (wrap64 (x12 + 1)))
end
def spec_Cross.f (k : Nat) (l0 : List (List (S42))) (l1 : List (List (S42))) : Option ((List (List (S42)))) := spec_Cross.l0 k l1 ([] : List (List (S42))) l0 (l0.length : Int) 0
theorem spec_Cross.mono_l : ∀ k, (∀ y0 y1 y2 y3 y4, LeO (spec_Cross.l0 k y0 y1 y2 y3 y4) (spec_Cross.l0 (k + 1) y0 y1 y2 y3 y4)) ∧ (∀ y0 y1 y2 y3 y4 y5 y6 y7 y8, LeO (spec_Cross.l1 k y0 y1 y2 y3 y4 y5 y6 y7 y8) (spec_Cross.l1 (k + 1) y0 y1 y2 y3 y4 y5 y6 y7 y8))
 | 0 => ⟨fun _ _ _ _ _ r h => by simp [spec_Cross.l0] at h, fun _ _ _ _ _ _ _ _ _ r h => by simp [spec_Cross.l1] at h⟩
 | k + 1 => by
  obtain ⟨ih0, ih1⟩ := spec_Cross.mono_l k
  refine ⟨?_, ?_⟩
  ·
   intro y0 y1 y2 y3 y4
   unfold spec_Cross.l0
   repeat' first
   | (with_reducible exact ih0 _ _ _ _ _)
   | (with_reducible exact ih1 _ _ _ _ _ _ _ _ _)
   | (with_reducible exact LeO.refl _)
   | (with_reducible exact LeO.none _)
   | (with_reducible refine LeO.ite ?_ ?_)
   | (with_reducible refine LeO.bind ?_ (fun _ => ?_))
   | exact ih0 _ _ _ _ _
   | exact ih1 _ _ _ _ _ _ _ _ _
   | exact LeO.none _
   | refine LeO.ite ?_ ?_
   | refine LeO.bind ?_ (fun _ => ?_)
  ·
   intro y0 y1 y2 y3 y4 y5 y6 y7 y8
   unfold spec_Cross.l1
   repeat' first
   | (with_reducible exact ih0 _ _ _ _ _)
   | (with_reducible exact ih1 _ _ _ _ _ _ _ _ _)
   | (with_reducible exact LeO.refl _)
   | (with_reducible exact LeO.none _)
   | (with_reducible refine LeO.ite ?_ ?_)
   | (with_reducible refine LeO.bind ?_ (fun _ => ?_))
   | exact ih0 _ _ _ _ _
   | exact ih1 _ _ _ _ _ _ _ _ _
   | exact LeO.none _
   | refine LeO.ite ?_ ?_
   | refine LeO.bind ?_ (fun _ => ?_)
theorem spec_Cross.mono : ∀ a0 a1 k, LeO (spec_Cross.f k a0 a1) (spec_Cross.f (k + 1) a0 a1) := by
 intro a0 a1 k
 obtain ⟨ih0, ih1⟩ := spec_Cross.mono_l k
 unfold spec_Cross.f
 repeat' first
   | (with_reducible exact ih0 _ _ _ _ _)
   | (with_reducible exact ih1 _ _ _ _ _ _ _ _ _)
   | (with_reducible exact LeO.refl _)
   | (with_reducible exact LeO.none _)
   | (with_reducible refine LeO.ite ?_ ?_)
   | (with_reducible refine LeO.bind ?_ (fun _ => ?_))
   | exact ih0 _ _ _ _ _
   | exact ih1 _ _ _ _ _ _ _ _ _
   | exact LeO.none _
   | refine LeO.ite ?_ ?_
   | refine LeO.bind ?_ (fun _ => ?_)
set_option maxHeartbeats 8000000 in
set_option maxRecDepth 100000 in
theorem spec_Cross.calls (k : Nat) (A0 : Option Addr) (c0 : Nat) (l0 : List (List (S42))) (A1 : Option Addr) (c1 : Nat) (l1 : List (List (S42))) (r : List (List (S42))) (w : World) (hr0 : Kd.C (Kd.slice 42 k42) w A0 l0.length l0) (hc0 : l0.length ≤ c0) (hr1 : Kd.C (Kd.slice 42 k42) w A1 l1.length l1) (hc1 : l1.length ≤ c1) (h : spec_Cross.f k l0 l1 = some r) :
  Calls Tryd.prog 117 #[.slice A0 l0.length c0, .slice A1 l1.length c1] w fun e w' => ∃ v0_ : Value, e = .returned (v0_) ∧ Kd.S (Kd.slice 42 k42) 73 w' w.heap.size (fun _ => True) v0_ r ∧ Below w.heap.size w w' := by
 have HR0 := Aside0.mk hr0
 have HC0 := Aside0.mk hc0
 clear hr0 hc0
 have HR1 := Aside0.mk hr1
 have HC1 := Aside0.mk hc1
 clear hr1 hc1
 have HB := Aside0.mk (Below.refl w.heap.size w)
 have H : (spec_Cross.l0 k l1 ([] : List (List (S42))) l0 (l0.length : Int) 0) = some r := h
 clear h
 have H' := Aside0.mk H
 clear H
 go_enter Tryd.func117, Tryd.ntmps117
 go_wp2
 go_loopg [5, 12] k (fun kq v5 v12 w' => ∃ (x5_1 : List (List (S42))) (x12_1 : Int), v12 = .int .i64 x12_1 ∧ Aside0 (spec_Cross.l0 kq l1 x5_1 l0 (l0.length : Int) x12_1 = some r) ∧ Aside0 (kq ≤ k) ∧ Aside0 (Kd.S (Kd.slice 42 k42) 73 w' w.heap.size (fun _ => True) v5 x5_1) ∧ Aside0 (Below w.heap.size w w'))
 case atStart => exact ⟨(([] : List (List (S42)))), (0), hrf, H', ⟨Nat.le_refl _⟩, ⟨by first | exact Kd.S_nil _ _ _ _ _ | exact Kd.N_nil _ _ _ _ _ | exact Kd.V_nil _ _ _ _ _ | exact Kd.Q_nil _ _ _ _ _ | exact Kd.R_nil _ _ _ _ _⟩, ⟨hbl HB.out⟩⟩
 case round =>
  clear H'
  try clear c1
  try clear p2
  obtain ⟨x5_1, x12_1, rfl, HA, HK1, HO_5, HB⟩ := hrel
  cases gk with
  | zero => exact absurd HA.out (by simp [spec_Cross.l0])
  | succ k1 =>
   have H := HA.out
   clear HA
   simp only [spec_Cross.l0] at H
   by_cases c3 : x12_1 < (l0.length : Int)
   ·
    rw [if_pos c3] at H
    have c3b0 : decide (x12_1 < (l0.length : Int)) = true := decide_eq_true c3
    clear c3
    by_cases c4 : 0 ≤ x12_1
    ·
     rw [if_pos c4] at H
     have c4b0 : decide (0 ≤ x12_1) = true := decide_eq_true c4
     clear c4
     by_cases c5 : x12_1 < (l0.length : Int)
     ·
      rw [if_pos c5] at H
      have c5b0 : decide (x12_1 < (l0.length : Int)) = true := decide_eq_true c5
      clear c5
      have H' := Aside0.mk H
      clear H
      have p144 : 0 ≤ (x12_1 : Int) := of_decide_eq_true (by assumption)
      have q144 : x12_1 < (l0.length : Int) := of_decide_eq_true (by assumption)
      obtain ⟨ad144, A144_0, c144_0, e144, hx144_0, hl144_0, hi144_0⟩ := at_L5 HR0.out x12_1 p144 q144
      cases e144
      replace hx144_0 := (HB.out.cell (World.block_lt_of_cell? w _ hx144_0)).trans hx144_0
      have HR144_0 := Aside0.mk hi144_0
      have HC144_0 := Aside0.mk hl144_0
      clear hi144_0 hl144_0
      replace p144 := eq_true p144
      replace q144 := eq_true q144
      go_wp2
      go_loopg [5, 18] k1 (fun kq v5 v18 w' => ∃ (x5_2 : List (List (S42))) (x18_2 : Int), v18 = .int .i64 x18_2 ∧ Aside0 (spec_Cross.l1 kq l1 x5_2 (rd_L5 l0 x12_1) l0 (l0.length : Int) x12_1 l1 (l1.length : Int) x18_2 = some r) ∧ Aside0 (kq ≤ k1) ∧ Aside0 (Kd.S (Kd.slice 42 k42) 73 w' w.heap.size (fun _ => True) v5 x5_2) ∧ Aside0 (Below w.heap.size w w'))
      case atStart => exact ⟨(x5_1), (0), hrf, H', ⟨Nat.le_refl _⟩, ⟨by (with_reducible repeat (first | apply Kd.S_alloc | apply Kd.S_drewN | apply Kd.S_drew)); exact HO_5.out⟩, ⟨hbl HB.out⟩⟩
      case round =>
       clear H'
       try clear c1
       try clear p1
       try clear q1
       try clear hx1
       try clear p2
       try clear c3
       try clear c3b0
       try clear c4
       try clear c4b0
       try clear c5
       try clear c5b0
       try clear hx144_0
       try clear p144
       try clear p2
       try clear q144
       obtain ⟨x5_2, x18_2, rfl, HA, HK2, HO_5, HB⟩ := hrel
       cases gk with
       | zero => exact absurd HA.out (by simp [spec_Cross.l1])
       | succ k2 =>
        have H := HA.out
        clear HA
        simp only [spec_Cross.l1] at H
        by_cases c6 : x18_2 < (l1.length : Int)
        ·
         rw [if_pos c6] at H
         have c6b0 : decide (x18_2 < (l1.length : Int)) = true := decide_eq_true c6
         clear c6
         by_cases c7 : 0 ≤ x18_2
         ·
          rw [if_pos c7] at H
          have c7b0 : decide (0 ≤ x18_2) = true := decide_eq_true c7
          clear c7
          by_cases c8 : x18_2 < (l1.length : Int)
          ·
           rw [if_pos c8] at H
           have c8b0 : decide (x18_2 < (l1.length : Int)) = true := decide_eq_true c8
           clear c8
           obtain ⟨y146, hy146⟩ : ∃ y_ : List (S42), y_ = (([] : List (S42))) := ⟨_, rfl⟩
           replace H : (if y146.length + (rd_L5 l0 x12_1).length < 2513169434916 then ((some (y146 ++ (rd_L5 l0 x12_1) : List (S42))).bind fun y149 => (if y149.length + (rd_L5 l1 x18_2).length < 2513169434916 then (if x5_2.length < 5864062014805 then (spec_Cross.l1 k2 l1 (x5_2 ++ [(y149 ++ (rd_L5 l1 x18_2))]) (rd_L5 l0 x12_1) l0 (l0.length : Int) x12_1 l1 (l1.length : Int) (wrap64 (x18_2 + 1))) else (none)) else (none))) else (none)) = some r := by first | (rw [hy146]; with_reducible exact H) | (have H2_ := (Option.bind_some _ _).symm.trans H; rw [hy146]; with_reducible exact H2_) | (have H2_ := (Option.bind_some _ _).symm.trans H; with_reducible exact H2_) | with_reducible exact H | (rw [hy146]; exact H) | exact H
           have Ny146 := Aside0.mk hy146
           clear hy146
           by_cases c9 : y146.length + (rd_L5 l0 x12_1).length < 2513169434916
           ·
            rw [if_pos c9] at H
            have LMc9 := Aside0.mk c9
            clear c9
            obtain ⟨y149, hy149⟩ : ∃ y_ : List (S42), y_ = (y146 ++ (rd_L5 l0 x12_1)) := ⟨_, rfl⟩
            replace H : (if y149.length + (rd_L5 l1 x18_2).length < 2513169434916 then (if x5_2.length < 5864062014805 then (spec_Cross.l1 k2 l1 (x5_2 ++ [(y149 ++ (rd_L5 l1 x18_2))]) (rd_L5 l0 x12_1) l0 (l0.length : Int) x12_1 l1 (l1.length : Int) (wrap64 (x18_2 + 1))) else (none)) else (none)) = some r := by first | (rw [hy149]; with_reducible exact H) | (have H2_ := (Option.bind_some _ _).symm.trans H; rw [hy149]; with_reducible exact H2_) | (have H2_ := (Option.bind_some _ _).symm.trans H; with_reducible exact H2_) | with_reducible exact H | (rw [hy149]; exact H) | exact H
            have Ny149 := Aside0.mk hy149
            clear hy149
            by_cases c10 : y149.length + (rd_L5 l1 x18_2).length < 2513169434916
            ·
             rw [if_pos c10] at H
             have LMc10 := Aside0.mk c10
             clear c10
             obtain ⟨y152, hy152⟩ : ∃ y_ : List (S42), y_ = (y149 ++ (rd_L5 l1 x18_2)) := ⟨_, rfl⟩
             replace H : (if x5_2.length < 5864062014805 then (spec_Cross.l1 k2 l1 (x5_2 ++ [y152]) (rd_L5 l0 x12_1) l0 (l0.length : Int) x12_1 l1 (l1.length : Int) (wrap64 (x18_2 + 1))) else (none)) = some r := by first | (rw [hy152]; with_reducible exact H) | (have H2_ := (Option.bind_some _ _).symm.trans H; rw [hy152]; with_reducible exact H2_) | (have H2_ := (Option.bind_some _ _).symm.trans H; with_reducible exact H2_) | with_reducible exact H | (rw [hy152]; exact H) | exact H
             have Ny152 := Aside0.mk hy152
             clear hy152
             by_cases c11 : x5_2.length < 5864062014805
             ·
              rw [if_pos c11] at H
              have LMc11 := Aside0.mk c11
              clear c11
              obtain ⟨y155, hy155⟩ : ∃ y_ : List (List (S42)), y_ = (x5_2 ++ [y152]) := ⟨_, rfl⟩
              replace H : (spec_Cross.l1 k2 l1 y155 (rd_L5 l0 x12_1) l0 (l0.length : Int) x12_1 l1 (l1.length : Int) (wrap64 (x18_2 + 1))) = some r := by first | (rw [hy155]; with_reducible exact H) | (have H2_ := (Option.bind_some _ _).symm.trans H; rw [hy155]; with_reducible exact H2_) | (have H2_ := (Option.bind_some _ _).symm.trans H; with_reducible exact H2_) | with_reducible exact H | (rw [hy155]; exact H) | exact H
              have Ny155 := Aside0.mk hy155
              clear hy155
              have H' := Aside0.mk H
              clear H
              have p145 : 0 ≤ (x18_2 : Int) := of_decide_eq_true (by assumption)
              have q145 : x18_2 < (l1.length : Int) := of_decide_eq_true (by assumption)
              obtain ⟨ad145, A145_0, c145_0, e145, hx145_0, hl145_0, hi145_0⟩ := at_L5 HR1.out x18_2 p145 q145
              cases e145
              replace hx145_0 := (HB.out.cell (World.block_lt_of_cell? w _ hx145_0)).trans hx145_0
              have HR145_0 := Aside0.mk hi145_0
              have HC145_0 := Aside0.mk hl145_0
              clear hi145_0 hl145_0
              replace p145 := eq_true p145
              replace q145 := eq_true q145
              go_wp2_with (first | ((with_reducible refine gate_dst (N := 23) rfl ?_); refine Kd.R_lit k42 _ 42 ?hg (N := 23) ?hd (xs := ([] : List (S42))) (inner := []) (ok := fun _ => True) (okp := fun _ => True) ?hr ?hp (fun _ hk => hk) trivial (Below.refl _ _) (Nat.le_refl _) (by simp) ?_; (case hd => rfl); (case hg => rfl); (case hr => first | (go_simp; done) | (go_simp; rfl)); (case hp => exact (Reps.none _ _)); intro v147 w12 ho13 hb hg_ hnew_; clear hg_ hnew_; (first | rw [← Ny146.out] at ho13 | (simp only [Int.reduceToNat] at ho13; rw [← Ny146.out] at ho13)); have n0_ := Aside0.mk (Kd.S_elder' (by (with_reducible repeat (first | apply Kd.S_alloc | apply Kd.S_drewN | apply Kd.S_drew)); exact HO_5.out) (Kd.R_base ho13) hb); have n1_ := Aside0.mk (Kd.R_lower ho13 (below_size (hbl HB.out))); have n2_ := Aside0.mk (below_step (hbl HB.out) hb); clear HO_5; clear HB; have HO_5 := n0_; have HO148 := n1_; have HB := n2_; clear n0_ n1_ n2_; clear hb ho13) | ((with_reducible refine gate_builtin (b := .append) (xs := #[.tmp 23, .tmp 24]) rfl ?_); at_builtin; refine Kd.R_append_rows k42 (w0 := w) w.heap.size rfl (.tmp 23) (.tmp 24) 73 42 (.agg #[(.int .i64 0), (.int .i64 0), (.int .u64 0), (.int .u64 0), (.int .u64 0), (.string ⟨#[]⟩)]) 56 rfl Tryd.underlying73 info42 rfl (by decide) (by omega) v147 y146 (rd_L5 l0 x12_1) _ _ _ (fun _ => True) (fun _ => False) rfl rfl ?aO ?aR (fun _ _ h => h) (fun _ h => h.elim) ?aF ?aB ?aS ?aL ?_; (case aR => repeat (first | exact (Kd.C_below HR144_0.out HB.out) | (with_reducible refine Kd.C_alloc ?_ _) | (with_reducible refine Kd.C_drewN ?_ _) | (with_reducible refine Kd.C_drew ?_))); (case aB => exact (hbl HB.out)); (case aF => exact (fun _ _ => trivial)); (case aO => exact (by (with_reducible repeat (first | apply Kd.R_alloc | apply Kd.R_drewN | apply Kd.R_drew)); exact HO148.out)); (case aS => exact (below_size (hbl HB.out))); (case aL => have := LMc9.out; omega); intro v150 w14 ho hb hg hat; rw [← Ny149.out] at ho; have n0_ := Aside0.mk (Kd.S_after (ok := (fun _ => True)) (by (with_reducible repeat (first | apply Kd.S_alloc | apply Kd.S_drewN | apply Kd.S_drew)); exact HO_5.out) hg hat); have n1_ := Aside0.mk (hb); have n2_ := Aside0.mk (ho); clear HO_5; clear HB; clear HO148; have HO_5 := n0_; have HB := n1_; have HO151 := n2_; clear n0_ n1_ n2_; clear ho hb hg hat) | ((with_reducible refine gate_builtin (b := .append) (xs := #[.tmp 25, .tmp 26]) rfl ?_); at_builtin; refine Kd.R_append_rows k42 (w0 := w) w.heap.size rfl (.tmp 25) (.tmp 26) 73 42 (.agg #[(.int .i64 0), (.int .i64 0), (.int .u64 0), (.int .u64 0), (.int .u64 0), (.string ⟨#[]⟩)]) 56 rfl Tryd.underlying73 info42 rfl (by decide) (by omega) v150 y149 (rd_L5 l1 x18_2) _ _ _ (fun _ => True) (fun _ => False) rfl rfl ?aO ?aR (fun _ _ h => h) (fun _ h => h.elim) ?aF ?aB ?aS ?aL ?_; (case aR => repeat (first | exact (Kd.C_below HR145_0.out HB.out) | (with_reducible refine Kd.C_alloc ?_ _) | (with_reducible refine Kd.C_drewN ?_ _) | (with_reducible refine Kd.C_drew ?_))); (case aB => exact (hbl HB.out)); (case aF => exact (fun _ _ => trivial)); (case aO => exact (by (with_reducible repeat (first | apply Kd.R_alloc | apply Kd.R_drewN | apply Kd.R_drew)); exact HO151.out)); (case aS => exact (below_size (hbl HB.out))); (case aL => have := LMc10.out; omega); intro v153 w15 ho hb hg hat; rw [← Ny152.out] at ho; have n0_ := Aside0.mk (Kd.S_after (ok := (fun _ => True)) (by (with_reducible repeat (first | apply Kd.S_alloc | apply Kd.S_drewN | apply Kd.S_drew)); exact HO_5.out) hg hat); have n1_ := Aside0.mk (hb); have n2_ := Aside0.mk (ho); clear HO_5; clear HB; clear HO151; have HO_5 := n0_; have HB := n1_; have HO154 := n2_; clear n0_ n1_ n2_; clear ho hb hg hat; obtain ⟨Ao17, co17, eo17⟩ := Kd.R_slice HO154.out; subst eo17) | ((with_reducible refine gate_builtin (b := .append) (xs := #[.tmp 22, .tmp 28]) rfl ?_); at_builtin; refine Kd.S_append (Kd.slice 42 k42) (w0 := w) w.heap.size rfl (.tmp 22) (.tmp 28) 62 73 (.slice none 0 0) 24 rfl Tryd.underlying62 info73 rfl (by decide) (by omega) u5 x5_2 y152 [.slice Ao17 y152.length co17] (fun _ => True) (fun k_ => some k_ = (.slice Ao17 y152.length co17 : Value).ownBlock) rfl rfl ?aP (fun k_ hk_ => ((Kd.R_mono (ok' := fun k_ => ((fun _ => True)) k_ ∧ some k_ ≠ (u5 : Value).ownBlock) (Kd.R_apart' (HO154.out) (Kd.S_typed HO_5.out) (by decide)) (fun k_ hk => ⟨trivial, hk.2⟩))).1 k_ hk_.symm) ?aF ?aO ?aB ?aS ?aL ?_; (case aP => exact Kd.M_row (Kd.R_mono (Kd.R_tight rfl (Kd.R_mono (ok' := fun k_ => ((fun _ => True)) k_ ∧ some k_ ≠ (u5 : Value).ownBlock) (Kd.R_apart' (HO154.out) (Kd.S_typed HO_5.out) (by decide)) (fun k_ hk => ⟨trivial, hk.2⟩))) (fun _ h_ => h_))); (case aB => exact (hbl HB.out)); (case aF => exact (fun _ _ => trivial)); (case aO => exact (by (with_reducible repeat (first | apply Kd.S_alloc | apply Kd.S_drewN | apply Kd.S_drew)); exact Kd.S_mono HO_5.out (fun k_ hk => ⟨trivial, fun e_ => hk.2 e_⟩))); (case aS => exact (below_size (hbl HB.out))); (case aL => have := LMc11.out; omega); intro v156 w16 ho hb hg hat; rw [← Ny155.out] at ho; have n0_ := Aside0.mk (hb); have n1_ := Aside0.mk (ho); clear HB; clear HO_5; clear HO154; have HB := n0_; have HO157 := n1_; clear n0_ n1_; clear ho hb hg hat))
              go_roundg k2
              case measure => have := HK1.out; have := HK2.out; omega
              case rel => exact ⟨(y155), (wrap64 (x18_2 + 1)), hrf, H', ⟨by have := HK1.out; have := HK2.out; omega⟩, ⟨by (with_reducible repeat (first | apply Kd.S_alloc | apply Kd.S_drewN | apply Kd.S_drew)); exact HO157.out⟩, ⟨hbl HB.out⟩⟩
             ·
              rw [if_neg c11] at H
              exact absurd H (by simp)
            ·
             rw [if_neg c10] at H
             exact absurd H (by simp)
           ·
            rw [if_neg c9] at H
            exact absurd H (by simp)
          ·
           rw [if_neg c8] at H
           exact absurd H (by simp)
         ·
          rw [if_neg c7] at H
          exact absurd H (by simp)
        ·
         rw [if_neg c6] at H
         have c6b0 : decide (x18_2 < (l1.length : Int)) = false := decide_eq_false c6
         clear c6
         have H' := Aside0.mk H
         clear H
         go_wp2
         go_roundg k2
         case measure => have := HK1.out; have := HK2.out; omega
         case rel => exact ⟨(x5_2), (wrap64 (x12_1 + 1)), hrf, H', ⟨by have := HK1.out; have := HK2.out; omega⟩, ⟨by (with_reducible repeat (first | apply Kd.S_alloc | apply Kd.S_drewN | apply Kd.S_drew)); exact HO_5.out⟩, ⟨hbl HB.out⟩⟩
     ·
      rw [if_neg c5] at H
      exact absurd H (by simp)
    ·
     rw [if_neg c4] at H
     exact absurd H (by simp)
   ·
    rw [if_neg c3] at H
    have c3b0 : decide (x12_1 < (l0.length : Int)) = false := decide_eq_false c3
    clear c3
    obtain rfl := Option.some.inj H
    go_wp2
    go_ret
    exact ⟨_, hrf, by (with_reducible repeat (first | apply Kd.S_alloc | apply Kd.S_drewN | apply Kd.S_drew)); exact HO_5.out, hbl HB.out⟩


/-! ### spec_Complement: function 69 -/
mutual
def spec_Complement.l0 : Nat → List (List (S42)) → List (List (S42)) → Int → Int → Option ((List (List (S42))) × Bool)
 | 0, _, _, _, _ => none
 | k + 1, x4, x14, x15, x16 => if x16 < x15 then (if 0 ≤ x16 then (if x16 < (x14.length : Int) then (spec_Complement.l1 k x4 ([] : List (List (S42))) x14 x15 x16 (rd_L5 x14 x16) ((rd_L5 x14 x16).length : Int) 0) else (none)) else (none)) else (some (x4, true))
def spec_Complement.l1 : Nat → List (List (S42)) → List (List (S42)) → List (List (S42)) → Int → Int → List (S42) → Int → Int → Option ((List (List (S42))) × Bool)
 | 0, _, _, _, _, _, _, _, _ => none
 | k + 1, x4, x7, x14, x15, x16, x20, x21, x22 => if x22 < x21 then (if 0 ≤ x22 then (if x22 < (x20.length : Int) then ((spec_Opposite.f ((rd_T42 x20 x22).f0)).bind fun bt167 => (if bt167.2 = true then (if ((rd_T42 x20 x22).f1) = 0 then (some (([] : List (List (S42))), false)) else (if x7.length < 5864062014805 then (spec_Complement.l1 k x4 (x7 ++ [(([(⟨bt167.1, (rd_T42 x20 x22).f1, (rd_T42 x20 x22).f2, (rd_T42 x20 x22).f3, (rd_T42 x20 x22).f4, (rd_T42 x20 x22).f5⟩ : S42)] : List (S42)))]) x14 x15 x16 x20 x21 (wrap64 (x22 + 1))) else (none))) else (some (([] : List (List (S42))), false)))) else (none)) else (none)) else ((spec_Cross.f k x4 x7).bind fun t175 => (spec_Complement.l0 k t175 x14 x15 (wrap64 (x16 + 1))))
end
def spec_Complement.f (k : Nat) (l0 : List (List (S42))) : Option ((List (List (S42))) × Bool) := spec_Complement.l0 k (([(([] : List (S42)))] : List (List (S42)))) l0 (l0.length : Int) 0
theorem spec_Complement.mono_l : ∀ k, (∀ y0 y1 y2 y3, LeO (spec_Complement.l0 k y0 y1 y2 y3) (spec_Complement.l0 (k + 1) y0 y1 y2 y3)) ∧ (∀ y0 y1 y2 y3 y4 y5 y6 y7, LeO (spec_Complement.l1 k y0 y1 y2 y3 y4 y5 y6 y7) (spec_Complement.l1 (k + 1) y0 y1 y2 y3 y4 y5 y6 y7))
 | 0 => ⟨fun _ _ _ _ r h => by simp [spec_Complement.l0] at h, fun _ _ _ _ _ _ _ _ r h => by simp [spec_Complement.l1] at h⟩
 | k + 1 => by
  obtain ⟨ih0, ih1⟩ := spec_Complement.mono_l k
  refine ⟨?_, ?_⟩
  ·
   intro y0 y1 y2 y3
   unfold spec_Complement.l0
   repeat' first
   | (with_reducible exact ih0 _ _ _ _)
   | (with_reducible exact ih1 _ _ _ _ _ _ _ _)
   | (with_reducible exact spec_Cross.mono _ _ _)
   | (with_reducible exact LeO.refl _)
   | (with_reducible exact LeO.none _)
   | (with_reducible refine LeO.ite ?_ ?_)
   | (with_reducible refine LeO.bind ?_ (fun _ => ?_))
   | exact ih0 _ _ _ _
   | exact ih1 _ _ _ _ _ _ _ _
   | exact spec_Cross.mono _ _ _
   | exact LeO.none _
   | refine LeO.ite ?_ ?_
   | refine LeO.bind ?_ (fun _ => ?_)
  ·
   intro y0 y1 y2 y3 y4 y5 y6 y7
   unfold spec_Complement.l1
   repeat' first
   | (with_reducible exact ih0 _ _ _ _)
   | (with_reducible exact ih1 _ _ _ _ _ _ _ _)
   | (with_reducible exact spec_Cross.mono _ _ _)
   | (with_reducible exact LeO.refl _)
   | (with_reducible exact LeO.none _)
   | (with_reducible refine LeO.ite ?_ ?_)
   | (with_reducible refine LeO.bind ?_ (fun _ => ?_))
   | exact ih0 _ _ _ _
   | exact ih1 _ _ _ _ _ _ _ _
   | exact spec_Cross.mono _ _ _
   | exact LeO.none _
   | refine LeO.ite ?_ ?_
   | refine LeO.bind ?_ (fun _ => ?_)
theorem spec_Complement.mono : ∀ a0 k, LeO (spec_Complement.f k a0) (spec_Complement.f (k + 1) a0) := by
 intro a0 k
 obtain ⟨ih0, ih1⟩ := spec_Complement.mono_l k
 unfold spec_Complement.f
 repeat' first
   | (with_reducible exact ih0 _ _ _ _)
   | (with_reducible exact ih1 _ _ _ _ _ _ _ _)
   | (with_reducible exact spec_Cross.mono _ _ _)
   | (with_reducible exact LeO.refl _)
   | (with_reducible exact LeO.none _)
   | (with_reducible refine LeO.ite ?_ ?_)
   | (with_reducible refine LeO.bind ?_ (fun _ => ?_))
   | exact ih0 _ _ _ _
   | exact ih1 _ _ _ _ _ _ _ _
   | exact spec_Cross.mono _ _ _
   | exact LeO.none _
   | refine LeO.ite ?_ ?_
   | refine LeO.bind ?_ (fun _ => ?_)
set_option maxHeartbeats 8000000 in
set_option maxRecDepth 100000 in
theorem spec_Complement.calls (k : Nat) (A0 : Option Addr) (c0 : Nat) (l0 : List (List (S42))) (r1 : List (List (S42))) (r2 : Bool) (w : World) (hr0 : Kd.C (Kd.slice 42 k42) w A0 l0.length l0) (hc0 : l0.length ≤ c0) (h : spec_Complement.f k l0 = some (r1, r2)) :
  Calls Tryd.prog 69 #[.slice A0 l0.length c0] w fun e w' => ∃ v0_ : Value, e = .returned (.tuple #[v0_, .bool r2]) ∧ Kd.N (Kd.slice 42 k42) 73 w' w.heap.size (fun k_ => (w.heap.size ≤ k_)) v0_ r1 ∧ Below w.heap.size w w' := by
 have hu42 := Tryd.underlying42
 have HR0 := Aside0.mk hr0
 have HC0 := Aside0.mk hc0
 clear hr0 hc0
 have HB := Aside0.mk (Below.refl w.heap.size w)
 have H : (spec_Complement.l0 k (([(([] : List (S42)))] : List (List (S42)))) l0 (l0.length : Int) 0) = some (r1, r2) := h
 clear h
 obtain ⟨y158, hy158⟩ : ∃ y_ : List (S42), y_ = (([] : List (S42))) := ⟨_, rfl⟩
 replace H : (spec_Complement.l0 k (([y158] : List (List (S42)))) l0 (l0.length : Int) 0) = some (r1, r2) := by first | (rw [hy158]; with_reducible exact H) | (have H2_ := (Option.bind_some _ _).symm.trans H; rw [hy158]; with_reducible exact H2_) | (have H2_ := (Option.bind_some _ _).symm.trans H; with_reducible exact H2_) | with_reducible exact H | (rw [hy158]; exact H) | exact H
 have Ny158 := Aside0.mk hy158
 clear hy158
 obtain ⟨y161, hy161⟩ : ∃ y_ : List (List (S42)), y_ = (([y158] : List (List (S42)))) := ⟨_, rfl⟩
 replace H : (spec_Complement.l0 k y161 l0 (l0.length : Int) 0) = some (r1, r2) := by first | (rw [hy161]; with_reducible exact H) | (have H2_ := (Option.bind_some _ _).symm.trans H; rw [hy161]; with_reducible exact H2_) | (have H2_ := (Option.bind_some _ _).symm.trans H; with_reducible exact H2_) | with_reducible exact H | (rw [hy161]; exact H) | exact H
 have Ny161 := Aside0.mk hy161
 clear hy161
 have H' := Aside0.mk H
 clear H
 go_enter Tryd.func69, Tryd.ntmps69
 go_wp2_with (first | ((with_reducible refine gate_dst (N := 12) rfl ?_); refine Kd.R_lit k42 _ 42 ?hg (N := 12) ?hd (xs := ([] : List (S42))) (inner := []) (ok := fun _ => True) (okp := fun _ => True) ?hr ?hp (fun _ hk => hk) trivial (Below.refl _ _) (Nat.le_refl _) (by simp) ?_; (case hd => rfl); (case hg => rfl); (case hr => first | (go_simp; done) | (go_simp; rfl)); (case hp => exact (Reps.none _ _)); intro v159 w2 ho3 hb hg_ hnew_; clear hg_ hnew_; (first | rw [← Ny158.out] at ho3 | (simp only [Int.reduceToNat] at ho3; rw [← Ny158.out] at ho3)); have n0_ := Aside0.mk (Kd.R_lower (Kd.R_newM (M := fun k_ => (w.heap.size ≤ k_)) ho3 (below_size (hbl HB.out)) (fun k_ h_ => h_)) (below_size (hbl HB.out))); have n1_ := Aside0.mk (below_step (hbl HB.out) hb); clear HB; have HO160 := n0_; have HB := n1_; clear n0_ n1_; clear hb ho3; obtain ⟨Ao4, co4, eo4⟩ := Kd.R_slice HO160.out; subst eo4) | ((with_reducible refine gate_dst (N := 13) rfl ?_); refine Kd.N_lit (Kd.slice 42 k42) _ 73 ?hg (N' := 13) ?hd (xs := ([y158] : List (List (S42)))) (inner := [.slice Ao4 y158.length co4]) (ok := (fun k_ => (w.heap.size ≤ k_))) (okp := (fun k_ => (w.heap.size ≤ k_))) ?hr ?hp (fun _ hk => hk) ((show ∀ k_, w2.heap.size ≤ k_ → (fun k_ => (w.heap.size ≤ k_)) k_ from fun k_ hk => (Nat.le_trans (below_size (hbl HB.out)) hk)) _ (Nat.le_refl _)) (Below.refl _ _) (Nat.le_refl _) (by simp) ?_; (case hd => rfl); (case hg => rfl); (case hr => first | (go_simp; done) | (go_simp; rfl)); (case hp => exact (Reps.one (show Kd.FK (Kd.slice 42 k42) _ _ y158 [.slice Ao4 y158.length co4] from (Kd.FK_slice_mk (Kd.R_reads' (Kd.R_mono (ok' := (fun k_ => (w.heap.size ≤ k_))) (HO160.out) (fun k_ hk => hk.1))).2.1 (Kd.R_F (Kd.R_mono (ok' := (fun k_ => (w.heap.size ≤ k_))) (HO160.out) (fun k_ hk => hk.1))))) (Reps.none _ _))); intro v162 w5 ho6 hb hg_ hnew_; clear hg_ hnew_; (first | rw [← Ny161.out] at ho6 | (simp only [Int.reduceToNat] at ho6; rw [← Ny161.out] at ho6)); have n0_ := Aside0.mk (Kd.N_lower ho6 (below_size (hbl HB.out))); have n1_ := Aside0.mk (below_step (hbl HB.out) hb); clear HB; clear HO160; have HO163 := n0_; have HB := n1_; clear n0_ n1_; clear hb ho6))
 go_loopg [4, 16] k (fun kq v4 v16 w' => ∃ (x4_1 : List (List (S42))) (x16_1 : Int), v16 = .int .i64 x16_1 ∧ Aside0 (spec_Complement.l0 kq x4_1 l0 (l0.length : Int) x16_1 = some (r1, r2)) ∧ Aside0 (kq ≤ k) ∧ Aside0 (Kd.N (Kd.slice 42 k42) 73 w' w.heap.size (fun k_ => (w.heap.size ≤ k_)) v4 x4_1) ∧ Aside0 (Below w.heap.size w w'))
 case atStart => exact ⟨(y161), (0), hrf, H', ⟨Nat.le_refl _⟩, ⟨by (with_reducible repeat (first | apply Kd.N_alloc | apply Kd.N_drewN | apply Kd.N_drew)); exact HO163.out⟩, ⟨hbl HB.out⟩⟩
 case round =>
  clear H'
  try clear p2
  try clear c6
  obtain ⟨x4_1, x16_1, rfl, HA, HK1, HO_4, HB⟩ := hrel
  cases gk with
  | zero => exact absurd HA.out (by simp [spec_Complement.l0])
  | succ k1 =>
   have H := HA.out
   clear HA
   simp only [spec_Complement.l0] at H
   by_cases c7 : x16_1 < (l0.length : Int)
   ·
    rw [if_pos c7] at H
    have c7b0 : decide (x16_1 < (l0.length : Int)) = true := decide_eq_true c7
    clear c7
    by_cases c8 : 0 ≤ x16_1
    ·
     rw [if_pos c8] at H
     have c8b0 : decide (0 ≤ x16_1) = true := decide_eq_true c8
     clear c8
     by_cases c9 : x16_1 < (l0.length : Int)
     ·
      rw [if_pos c9] at H
      have c9b0 : decide (x16_1 < (l0.length : Int)) = true := decide_eq_true c9
      clear c9
      have H' := Aside0.mk H
      clear H
      have p164 : 0 ≤ (x16_1 : Int) := of_decide_eq_true (by assumption)
      have q164 : x16_1 < (l0.length : Int) := of_decide_eq_true (by assumption)
      obtain ⟨ad164, A164_0, c164_0, e164, hx164_0, hl164_0, hi164_0⟩ := at_L5 HR0.out x16_1 p164 q164
      cases e164
      replace hx164_0 := (HB.out.cell (World.block_lt_of_cell? w _ hx164_0)).trans hx164_0
      have HR164_0 := Aside0.mk hi164_0
      have HC164_0 := Aside0.mk hl164_0
      clear hi164_0 hl164_0
      replace p164 := eq_true p164
      replace q164 := eq_true q164
      go_wp2
      go_loopg [7, 22] k1 (fun kq v7 v22 w' => ∃ (x7_2 : List (List (S42))) (x22_2 : Int), v22 = .int .i64 x22_2 ∧ Aside0 (spec_Complement.l1 kq x4_1 x7_2 l0 (l0.length : Int) x16_1 (rd_L5 l0 x16_1) ((rd_L5 l0 x16_1).length : Int) x22_2 = some (r1, r2)) ∧ Aside0 (kq ≤ k1) ∧ Aside0 (Kd.N (Kd.slice 42 k42) 73 w' w.heap.size (fun k_ => (w.heap.size ≤ k_) ∧ some k_ ≠ (v7 : Value).ownBlock) u4 x4_1) ∧ Aside0 (Kd.N (Kd.slice 42 k42) 73 w' w.heap.size (fun k_ => (w.heap.size ≤ k_) ∧ some k_ ≠ (u4 : Value).ownBlock) v7 x7_2) ∧ Aside0 (Below w.heap.size w w'))
      case atStart => exact ⟨(([] : List (List (S42)))), (0), hrf, H', ⟨Nat.le_refl _⟩, ⟨by (with_reducible repeat (first | apply Kd.N_alloc | apply Kd.N_drewN | apply Kd.N_drew)); exact Kd.N_mono HO_4.out (fun _ hk => ⟨hk, (by simp [Value.ownBlock])⟩)⟩, ⟨by first | exact Kd.S_nil _ _ _ _ _ | exact Kd.N_nil _ _ _ _ _ | exact Kd.V_nil _ _ _ _ _ | exact Kd.Q_nil _ _ _ _ _ | exact Kd.R_nil _ _ _ _ _⟩, ⟨hbl HB.out⟩⟩
      case round =>
       clear H'
       try clear c1
       try clear p1
       try clear q1
       try clear hx1
       try clear p2
       try clear c6
       try clear c7
       try clear c7b0
       try clear c8
       try clear c8b0
       try clear c9
       try clear c9b0
       try clear hx164_0
       try clear p164
       try clear p2
       try clear q164
       obtain ⟨x7_2, x22_2, rfl, HA, HK2, HO_4, HO_7, HB⟩ := hrel
       cases gk with
       | zero => exact absurd HA.out (by simp [spec_Complement.l1])
       | succ k2 =>
        have H := HA.out
        clear HA
        simp only [spec_Complement.l1] at H
        by_cases c10 : x22_2 < ((rd_L5 l0 x16_1).length : Int)
        ·
         rw [if_pos c10] at H
         have c10b0 : decide (x22_2 < ((rd_L5 l0 x16_1).length : Int)) = true := decide_eq_true c10
         clear c10
         by_cases c11 : 0 ≤ x22_2
         ·
          rw [if_pos c11] at H
          have c11b0 : decide (0 ≤ x22_2) = true := decide_eq_true c11
          clear c11
          by_cases c12 : x22_2 < ((rd_L5 l0 x16_1).length : Int)
          ·
           rw [if_pos c12] at H
           have c12b0 : decide (x22_2 < ((rd_L5 l0 x16_1).length : Int)) = true := decide_eq_true c12
           clear c12
           replace H := Option.bind_eq_some_iff.mp H
           obtain ⟨⟨t167, t168⟩, A130, H⟩ := H
           replace H : (if t168 = true then (if ((rd_T42 (rd_L5 l0 x16_1) x22_2).f1) = 0 then (some (([] : List (List (S42))), false)) else (if x7_2.length < 5864062014805 then (spec_Complement.l1 k2 x4_1 (x7_2 ++ [(([(⟨t167, (rd_T42 (rd_L5 l0 x16_1) x22_2).f1, (rd_T42 (rd_L5 l0 x16_1) x22_2).f2, (rd_T42 (rd_L5 l0 x16_1) x22_2).f3, (rd_T42 (rd_L5 l0 x16_1) x22_2).f4, (rd_T42 (rd_L5 l0 x16_1) x22_2).f5⟩ : S42)] : List (S42)))]) l0 (l0.length : Int) x16_1 (rd_L5 l0 x16_1) ((rd_L5 l0 x16_1).length : Int) (wrap64 (x22_2 + 1))) else (none))) else (some (([] : List (List (S42))), false))) = some (r1, r2) := H
           have A13 := Aside0.mk A130
           clear A130
           by_cases c14 : t168 = true
           ·
            subst c14
            have H1 : (if ((rd_T42 (rd_L5 l0 x16_1) x22_2).f1) = 0 then (some (([] : List (List (S42))), false)) else (if x7_2.length < 5864062014805 then (spec_Complement.l1 k2 x4_1 (x7_2 ++ [(([(⟨t167, (rd_T42 (rd_L5 l0 x16_1) x22_2).f1, (rd_T42 (rd_L5 l0 x16_1) x22_2).f2, (rd_T42 (rd_L5 l0 x16_1) x22_2).f3, (rd_T42 (rd_L5 l0 x16_1) x22_2).f4, (rd_T42 (rd_L5 l0 x16_1) x22_2).f5⟩ : S42)] : List (S42)))]) l0 (l0.length : Int) x16_1 (rd_L5 l0 x16_1) ((rd_L5 l0 x16_1).length : Int) (wrap64 (x22_2 + 1))) else (none))) = some (r1, r2) := by rw [if_pos rfl] at H; exact H
            clear H
            have H := H1
            clear H1
            by_cases c15 : ((rd_T42 (rd_L5 l0 x16_1) x22_2).f1) = 0
            ·
             rw [if_pos c15] at H
             have c15b0 : (((rd_T42 (rd_L5 l0 x16_1) x22_2).f1) == 0) = true := beq_iff_eq.mpr c15
             have c15b1 : (((rd_T42 (rd_L5 l0 x16_1) x22_2).f1) != 0) = false := bne_eq_false_iff_eq.mpr c15
             clear c15
             simp only [Option.some.injEq, Prod.mk.injEq] at H
             obtain ⟨rfl, rfl⟩ := H
             have p165 : 0 ≤ (x22_2 : Int) := of_decide_eq_true (by assumption)
             have q165 : x22_2 < ((rd_L5 l0 x16_1).length : Int) := of_decide_eq_true (by assumption)
             obtain ⟨ad165, e165, hx165_0, hx165_1, hx165_2, hx165_3, hx165_4, hx165_5⟩ := at_T42 HR164_0.out x22_2 p165 q165
             cases e165
             replace hx165_0 := (HB.out.cell (World.block_lt_of_cell? w _ hx165_0)).trans hx165_0
             replace hx165_1 := (HB.out.cell (World.block_lt_of_cell? w _ hx165_1)).trans hx165_1
             replace hx165_2 := (HB.out.cell (World.block_lt_of_cell? w _ hx165_2)).trans hx165_2
             replace hx165_3 := (HB.out.cell (World.block_lt_of_cell? w _ hx165_3)).trans hx165_3
             replace hx165_4 := (HB.out.cell (World.block_lt_of_cell? w _ hx165_4)).trans hx165_4
             replace hx165_5 := (HB.out.cell (World.block_lt_of_cell? w _ hx165_5)).trans hx165_5
             replace p165 := eq_true p165
             replace q165 := eq_true q165
             go_wp2_with (first | ((with_reducible refine gate_dst (N := 9) rfl ?_); refine box_event ?hg (N := 9) ?hd (cs := #[.int .i64 0, .int .i64 0, .int .u64 0, .int .u64 0, .int .u64 0, .string (⟨#[]⟩ : ByteArray)]) (t := 42) ?hr ?_; (case hd => rfl); (case hg => rfl); (case hr => first | (go_simp; done) | (go_simp; rfl)); intro gb166 hg w16 hbox hb; have n0_ := Aside0.mk (Kd.N_below (Kd.N_elderB (by (with_reducible repeat (first | apply Kd.N_alloc | apply Kd.N_drewN | apply Kd.N_drew)); exact HO_4.out) gb166 (Nat.le_of_eq hg.symm)) hb); have n1_ := Aside0.mk (Kd.N_below (Kd.N_elderB (by (with_reducible repeat (first | apply Kd.N_alloc | apply Kd.N_drewN | apply Kd.N_drew)); exact HO_7.out) gb166 (Nat.le_of_eq hg.symm)) hb); have n2_ := Aside0.mk (below_step (hbl HB.out) hb); have n3_ := Aside0.mk (hbox); have n4_ := Aside0.mk ((by rw [hg]; exact (below_size (hbl HB.out)) : w.heap.size ≤ gb166)); have n5_ := Aside0.mk ((by rw [hg]; exact (below_size (hbl HB.out)) : w.heap.size ≤ gb166)); clear HO_4; clear HO_7; clear HB; have HO_4 := n0_; have HO_7 := n1_; have HB := n2_; have BK166 := n3_; have GW166 := n4_; have GE166 := n5_; clear n0_ n1_ n2_ n3_ n4_ n5_; clear hb hbox hg; have hcz17_0 : w16.cell? ⟨gb166, 0, none⟩ = some (.int .i64 0) := (blk_cell BK166.out 0).trans rfl; have hcz17_1 : w16.cell? ⟨gb166, 1, none⟩ = some (.int .i64 0) := (blk_cell BK166.out 1).trans rfl; have hcz17_2 : w16.cell? ⟨gb166, 2, none⟩ = some (.int .u64 0) := (blk_cell BK166.out 2).trans rfl; have hcz17_3 : w16.cell? ⟨gb166, 3, none⟩ = some (.int .u64 0) := (blk_cell BK166.out 3).trans rfl; have hcz17_4 : w16.cell? ⟨gb166, 4, none⟩ = some (.int .u64 0) := (blk_cell BK166.out 4).trans rfl; have hcz17_5 : w16.cell? ⟨gb166, 5, none⟩ = some (.string (⟨#[]⟩ : ByteArray)) := (blk_cell BK166.out 5).trans rfl; have hfz17_0 := blk_frozen BK166.out 0; have hfz17_1 := blk_frozen BK166.out 1; have hfz17_2 := blk_frozen BK166.out 2; have hfz17_3 := blk_frozen BK166.out 3; have hfz17_4 := blk_frozen BK166.out 4; have hfz17_5 := blk_frozen BK166.out 5) | ((with_reducible refine gate_callee (f := 116) rfl ?_); refine goesL_ (some 29) rfl rfl Tryd.func116 (by kernel_rfl) rfl #[.int .i64 ((rd_T42 (rd_L5 l0 x16_1) x22_2).f0)] rfl (by (try simp only [List.map_toArray, List.map_cons, List.map_nil]); first | done | rfl | (simp only [List.length_drop, List.length_take]; rfl)) ?_; (with_reducible refine (spec_Opposite.calls ((rd_T42 (rd_L5 l0 x16_1) x22_2).f0) t167 true _ A13.out).mono ?_); rintro e w' ⟨rfl, ⟨nd, rfl⟩⟩; refine ⟨_, rfl, ?_⟩))
             go_ret2
             exact ⟨_, hrf, by first | exact Kd.S_nil _ _ _ _ _ | exact Kd.N_nil _ _ _ _ _ | exact Kd.V_nil _ _ _ _ _ | exact Kd.Q_nil _ _ _ _ _ | exact Kd.R_nil _ _ _ _ _, hbl HB.out⟩
            ·
             rw [if_neg c15] at H
             have c15b0 : (((rd_T42 (rd_L5 l0 x16_1) x22_2).f1) == 0) = false := beq_eq_false_iff_ne.mpr c15
             have c15b1 : (((rd_T42 (rd_L5 l0 x16_1) x22_2).f1) != 0) = true := bne_iff_ne.mpr c15
             obtain ⟨y169, hy169⟩ : ∃ y_ : List (S42), y_ = (([(⟨t167, (rd_T42 (rd_L5 l0 x16_1) x22_2).f1, (rd_T42 (rd_L5 l0 x16_1) x22_2).f2, (rd_T42 (rd_L5 l0 x16_1) x22_2).f3, (rd_T42 (rd_L5 l0 x16_1) x22_2).f4, (rd_T42 (rd_L5 l0 x16_1) x22_2).f5⟩ : S42)] : List (S42))) := ⟨_, rfl⟩
             replace H : (if x7_2.length < 5864062014805 then (spec_Complement.l1 k2 x4_1 (x7_2 ++ [y169]) l0 (l0.length : Int) x16_1 (rd_L5 l0 x16_1) ((rd_L5 l0 x16_1).length : Int) (wrap64 (x22_2 + 1))) else (none)) = some (r1, r2) := by first | (rw [hy169]; with_reducible exact H) | (have H2_ := (Option.bind_some _ _).symm.trans H; rw [hy169]; with_reducible exact H2_) | (have H2_ := (Option.bind_some _ _).symm.trans H; with_reducible exact H2_) | with_reducible exact H | (rw [hy169]; exact H) | exact H
             have Ny169 := Aside0.mk hy169
             clear hy169
             by_cases c18 : x7_2.length < 5864062014805
             ·
              rw [if_pos c18] at H
              have LMc18 := Aside0.mk c18
              clear c18
              obtain ⟨y172, hy172⟩ : ∃ y_ : List (List (S42)), y_ = (x7_2 ++ [y169]) := ⟨_, rfl⟩
              replace H : (spec_Complement.l1 k2 x4_1 y172 l0 (l0.length : Int) x16_1 (rd_L5 l0 x16_1) ((rd_L5 l0 x16_1).length : Int) (wrap64 (x22_2 + 1))) = some (r1, r2) := by first | (rw [hy172]; with_reducible exact H) | (have H2_ := (Option.bind_some _ _).symm.trans H; rw [hy172]; with_reducible exact H2_) | (have H2_ := (Option.bind_some _ _).symm.trans H; with_reducible exact H2_) | with_reducible exact H | (rw [hy172]; exact H) | exact H
              have Ny172 := Aside0.mk hy172
              clear hy172
              have H' := Aside0.mk H
              clear H
              have p165 : 0 ≤ (x22_2 : Int) := of_decide_eq_true (by assumption)
              have q165 : x22_2 < ((rd_L5 l0 x16_1).length : Int) := of_decide_eq_true (by assumption)
              obtain ⟨ad165, e165, hx165_0, hx165_1, hx165_2, hx165_3, hx165_4, hx165_5⟩ := at_T42 HR164_0.out x22_2 p165 q165
              cases e165
              replace hx165_0 := (HB.out.cell (World.block_lt_of_cell? w _ hx165_0)).trans hx165_0
              replace hx165_1 := (HB.out.cell (World.block_lt_of_cell? w _ hx165_1)).trans hx165_1
              replace hx165_2 := (HB.out.cell (World.block_lt_of_cell? w _ hx165_2)).trans hx165_2
              replace hx165_3 := (HB.out.cell (World.block_lt_of_cell? w _ hx165_3)).trans hx165_3
              replace hx165_4 := (HB.out.cell (World.block_lt_of_cell? w _ hx165_4)).trans hx165_4
              replace hx165_5 := (HB.out.cell (World.block_lt_of_cell? w _ hx165_5)).trans hx165_5
              replace p165 := eq_true p165
              replace q165 := eq_true q165
              go_wp2_with (first | ((with_reducible refine gate_dst (N := 9) rfl ?_); refine box_event ?hg (N := 9) ?hd (cs := #[.int .i64 0, .int .i64 0, .int .u64 0, .int .u64 0, .int .u64 0, .string (⟨#[]⟩ : ByteArray)]) (t := 42) ?hr ?_; (case hd => rfl); (case hg => rfl); (case hr => first | (go_simp; done) | (go_simp; rfl)); intro gb166 hg w19 hbox hb; have n0_ := Aside0.mk (Kd.N_below (Kd.N_elderB (by (with_reducible repeat (first | apply Kd.N_alloc | apply Kd.N_drewN | apply Kd.N_drew)); exact HO_4.out) gb166 (Nat.le_of_eq hg.symm)) hb); have n1_ := Aside0.mk (Kd.N_below (Kd.N_elderB (by (with_reducible repeat (first | apply Kd.N_alloc | apply Kd.N_drewN | apply Kd.N_drew)); exact HO_7.out) gb166 (Nat.le_of_eq hg.symm)) hb); have n2_ := Aside0.mk (below_step (hbl HB.out) hb); have n3_ := Aside0.mk (hbox); have n4_ := Aside0.mk ((by rw [hg]; exact (below_size (hbl HB.out)) : w.heap.size ≤ gb166)); have n5_ := Aside0.mk ((by rw [hg]; exact (below_size (hbl HB.out)) : w.heap.size ≤ gb166)); clear HO_4; clear HO_7; clear HB; have HO_4 := n0_; have HO_7 := n1_; have HB := n2_; have BK166 := n3_; have GW166 := n4_; have GE166 := n5_; clear n0_ n1_ n2_ n3_ n4_ n5_; clear hb hbox hg; have hcz20_0 : w19.cell? ⟨gb166, 0, none⟩ = some (.int .i64 0) := (blk_cell BK166.out 0).trans rfl; have hcz20_1 : w19.cell? ⟨gb166, 1, none⟩ = some (.int .i64 0) := (blk_cell BK166.out 1).trans rfl; have hcz20_2 : w19.cell? ⟨gb166, 2, none⟩ = some (.int .u64 0) := (blk_cell BK166.out 2).trans rfl; have hcz20_3 : w19.cell? ⟨gb166, 3, none⟩ = some (.int .u64 0) := (blk_cell BK166.out 3).trans rfl; have hcz20_4 : w19.cell? ⟨gb166, 4, none⟩ = some (.int .u64 0) := (blk_cell BK166.out 4).trans rfl; have hcz20_5 : w19.cell? ⟨gb166, 5, none⟩ = some (.string (⟨#[]⟩ : ByteArray)) := (blk_cell BK166.out 5).trans rfl; have hfz20_0 := blk_frozen BK166.out 0; have hfz20_1 := blk_frozen BK166.out 1; have hfz20_2 := blk_frozen BK166.out 2; have hfz20_3 := blk_frozen BK166.out 3; have hfz20_4 := blk_frozen BK166.out 4; have hfz20_5 := blk_frozen BK166.out 5) | ((with_reducible refine gate_callee (f := 116) rfl ?_); refine goesL_ (some 29) rfl rfl Tryd.func116 (by kernel_rfl) rfl #[.int .i64 ((rd_T42 (rd_L5 l0 x16_1) x22_2).f0)] rfl (by (try simp only [List.map_toArray, List.map_cons, List.map_nil]); first | done | rfl | (simp only [List.length_drop, List.length_take]; rfl)) ?_; (with_reducible refine (spec_Opposite.calls ((rd_T42 (rd_L5 l0 x16_1) x22_2).f0) t167 true _ A13.out).mono ?_); rintro e w' ⟨rfl, ⟨nd, rfl⟩⟩; refine ⟨_, rfl, ?_⟩) | ((with_reducible refine gate_dst (N := 43) rfl ?_); refine Kd.R_lit k42 _ 42 ?hg (N := 43) ?hd (xs := ([(⟨t167, (rd_T42 (rd_L5 l0 x16_1) x22_2).f1, (rd_T42 (rd_L5 l0 x16_1) x22_2).f2, (rd_T42 (rd_L5 l0 x16_1) x22_2).f3, (rd_T42 (rd_L5 l0 x16_1) x22_2).f4, (rd_T42 (rd_L5 l0 x16_1) x22_2).f5⟩ : S42)] : List (S42))) (inner := [.int .i64 t167, .int .i64 ((rd_T42 (rd_L5 l0 x16_1) x22_2).f1), .int .u64 ((rd_T42 (rd_L5 l0 x16_1) x22_2).f2), .int .u64 ((rd_T42 (rd_L5 l0 x16_1) x22_2).f3), .int .u64 ((rd_T42 (rd_L5 l0 x16_1) x22_2).f4), .string ((rd_T42 (rd_L5 l0 x16_1) x22_2).f5)]) (ok := fun _ => True) (okp := fun _ => True) ?hr ?hp (fun _ hk => hk) trivial (Below.refl _ _) (Nat.le_refl _) (by simp) ?_; (case hd => rfl); (case hg => rfl); (case hr => first | (go_simp; done) | (go_simp; rfl)); (case hp => exact (Reps.c6 (show Kd.M k42 _ _ _ (⟨t167, (rd_T42 (rd_L5 l0 x16_1) x22_2).f1, (rd_T42 (rd_L5 l0 x16_1) x22_2).f2, (rd_T42 (rd_L5 l0 x16_1) x22_2).f3, (rd_T42 (rd_L5 l0 x16_1) x22_2).f4, (rd_T42 (rd_L5 l0 x16_1) x22_2).f5⟩ : S42) [.int .i64 t167, .int .i64 ((rd_T42 (rd_L5 l0 x16_1) x22_2).f1), .int .u64 ((rd_T42 (rd_L5 l0 x16_1) x22_2).f2), .int .u64 ((rd_T42 (rd_L5 l0 x16_1) x22_2).f3), .int .u64 ((rd_T42 (rd_L5 l0 x16_1) x22_2).f4), .string ((rd_T42 (rd_L5 l0 x16_1) x22_2).f5)] from (k42_mkM _ _ _ (⟨t167, (rd_T42 (rd_L5 l0 x16_1) x22_2).f1, (rd_T42 (rd_L5 l0 x16_1) x22_2).f2, (rd_T42 (rd_L5 l0 x16_1) x22_2).f3, (rd_T42 (rd_L5 l0 x16_1) x22_2).f4, (rd_T42 (rd_L5 l0 x16_1) x22_2).f5⟩ : S42) )) (Reps.none _ _))); intro v170 w21 ho22 hb hg_ hnew_; clear hg_ hnew_; (first | rw [← Ny169.out] at ho22 | (simp only [Int.reduceToNat] at ho22; rw [← Ny169.out] at ho22)); have n0_ := Aside0.mk (Kd.N_elder' (by (with_reducible repeat (first | apply Kd.N_alloc | apply Kd.N_drewN | apply Kd.N_drew)); exact (Kd.N_mono (Kd.N_far (p := ⟨gb166, 0, none⟩) (Kd.N_drewN (Kd.N_far (p := ⟨gb166, 5, none⟩) (Kd.N_far (p := ⟨gb166, 4, none⟩) (Kd.N_far (p := ⟨gb166, 3, none⟩) (Kd.N_far (p := ⟨gb166, 2, none⟩) (Kd.N_far (p := ⟨gb166, 1, none⟩) (Kd.N_far (p := ⟨gb166, 0, none⟩) (Kd.N_mono HO_4.out (fun k_ hk => (⟨hk, hk.2⟩ : _ ∧ k_ ≠ gb166))) (fun _ hk => hk.2) (.int .i64 ((rd_T42 (rd_L5 l0 x16_1) x22_2).f0))) (fun _ hk => hk.2) (.int .i64 ((rd_T42 (rd_L5 l0 x16_1) x22_2).f1))) (fun _ hk => hk.2) (.int .u64 ((rd_T42 (rd_L5 l0 x16_1) x22_2).f2))) (fun _ hk => hk.2) (.int .u64 ((rd_T42 (rd_L5 l0 x16_1) x22_2).f3))) (fun _ hk => hk.2) (.int .u64 ((rd_T42 (rd_L5 l0 x16_1) x22_2).f4))) (fun _ hk => hk.2) (.string ((rd_T42 (rd_L5 l0 x16_1) x22_2).f5))) _) (fun _ hk => hk.2) (.int .i64 t167)) (fun _ h_ => h_.1))) (Kd.R_base ho22) hb); have n1_ := Aside0.mk (Kd.N_elder' (by (with_reducible repeat (first | apply Kd.N_alloc | apply Kd.N_drewN | apply Kd.N_drew)); exact (Kd.N_mono (Kd.N_far (p := ⟨gb166, 0, none⟩) (Kd.N_drewN (Kd.N_far (p := ⟨gb166, 5, none⟩) (Kd.N_far (p := ⟨gb166, 4, none⟩) (Kd.N_far (p := ⟨gb166, 3, none⟩) (Kd.N_far (p := ⟨gb166, 2, none⟩) (Kd.N_far (p := ⟨gb166, 1, none⟩) (Kd.N_far (p := ⟨gb166, 0, none⟩) (Kd.N_mono HO_7.out (fun k_ hk => (⟨hk, hk.2⟩ : _ ∧ k_ ≠ gb166))) (fun _ hk => hk.2) (.int .i64 ((rd_T42 (rd_L5 l0 x16_1) x22_2).f0))) (fun _ hk => hk.2) (.int .i64 ((rd_T42 (rd_L5 l0 x16_1) x22_2).f1))) (fun _ hk => hk.2) (.int .u64 ((rd_T42 (rd_L5 l0 x16_1) x22_2).f2))) (fun _ hk => hk.2) (.int .u64 ((rd_T42 (rd_L5 l0 x16_1) x22_2).f3))) (fun _ hk => hk.2) (.int .u64 ((rd_T42 (rd_L5 l0 x16_1) x22_2).f4))) (fun _ hk => hk.2) (.string ((rd_T42 (rd_L5 l0 x16_1) x22_2).f5))) _) (fun _ hk => hk.2) (.int .i64 t167)) (fun _ h_ => h_.1))) (Kd.R_base ho22) hb); have n2_ := Aside0.mk (Kd.R_lower (Kd.R_newB (Kd.R_newM (M := fun k_ => (w.heap.size ≤ k_)) ho22 (below_size (hbl HB.out)) (fun k_ h_ => h_)) (g := gb166) (o := .cells #[.int .i64 t167, .int .i64 ((rd_T42 (rd_L5 l0 x16_1) x22_2).f1), .int .u64 ((rd_T42 (rd_L5 l0 x16_1) x22_2).f2), .int .u64 ((rd_T42 (rd_L5 l0 x16_1) x22_2).f3), .int .u64 ((rd_T42 (rd_L5 l0 x16_1) x22_2).f4), .string ((rd_T42 (rd_L5 l0 x16_1) x22_2).f5)] 42 (0, 0)) (by (with_reducible repeat (first | refine blk_drewN ?_ _ | refine blk_drew ?_ | refine blk_alloc ?_ _)); refine blk_put (cs := #[.int .i64 ((rd_T42 (rd_L5 l0 x16_1) x22_2).f0), .int .i64 ((rd_T42 (rd_L5 l0 x16_1) x22_2).f1), .int .u64 ((rd_T42 (rd_L5 l0 x16_1) x22_2).f2), .int .u64 ((rd_T42 (rd_L5 l0 x16_1) x22_2).f3), .int .u64 ((rd_T42 (rd_L5 l0 x16_1) x22_2).f4), .string ((rd_T42 (rd_L5 l0 x16_1) x22_2).f5)]) ?_ 0 _ rfl; (with_reducible repeat (first | refine blk_drewN ?_ _ | refine blk_drew ?_ | refine blk_alloc ?_ _)); refine blk_put (cs := #[.int .i64 ((rd_T42 (rd_L5 l0 x16_1) x22_2).f0), .int .i64 ((rd_T42 (rd_L5 l0 x16_1) x22_2).f1), .int .u64 ((rd_T42 (rd_L5 l0 x16_1) x22_2).f2), .int .u64 ((rd_T42 (rd_L5 l0 x16_1) x22_2).f3), .int .u64 ((rd_T42 (rd_L5 l0 x16_1) x22_2).f4), .string (⟨#[]⟩ : ByteArray)]) ?_ 5 _ rfl; (with_reducible repeat (first | refine blk_drewN ?_ _ | refine blk_drew ?_ | refine blk_alloc ?_ _)); refine blk_put (cs := #[.int .i64 ((rd_T42 (rd_L5 l0 x16_1) x22_2).f0), .int .i64 ((rd_T42 (rd_L5 l0 x16_1) x22_2).f1), .int .u64 ((rd_T42 (rd_L5 l0 x16_1) x22_2).f2), .int .u64 ((rd_T42 (rd_L5 l0 x16_1) x22_2).f3), .int .u64 0, .string (⟨#[]⟩ : ByteArray)]) ?_ 4 _ rfl; (with_reducible repeat (first | refine blk_drewN ?_ _ | refine blk_drew ?_ | refine blk_alloc ?_ _)); refine blk_put (cs := #[.int .i64 ((rd_T42 (rd_L5 l0 x16_1) x22_2).f0), .int .i64 ((rd_T42 (rd_L5 l0 x16_1) x22_2).f1), .int .u64 ((rd_T42 (rd_L5 l0 x16_1) x22_2).f2), .int .u64 0, .int .u64 0, .string (⟨#[]⟩ : ByteArray)]) ?_ 3 _ rfl; (with_reducible repeat (first | refine blk_drewN ?_ _ | refine blk_drew ?_ | refine blk_alloc ?_ _)); refine blk_put (cs := #[.int .i64 ((rd_T42 (rd_L5 l0 x16_1) x22_2).f0), .int .i64 ((rd_T42 (rd_L5 l0 x16_1) x22_2).f1), .int .u64 0, .int .u64 0, .int .u64 0, .string (⟨#[]⟩ : ByteArray)]) ?_ 2 _ rfl; (with_reducible repeat (first | refine blk_drewN ?_ _ | refine blk_drew ?_ | refine blk_alloc ?_ _)); refine blk_put (cs := #[.int .i64 ((rd_T42 (rd_L5 l0 x16_1) x22_2).f0), .int .i64 0, .int .u64 0, .int .u64 0, .int .u64 0, .string (⟨#[]⟩ : ByteArray)]) ?_ 1 _ rfl; (with_reducible repeat (first | refine blk_drewN ?_ _ | refine blk_drew ?_ | refine blk_alloc ?_ _)); refine blk_put (cs := #[.int .i64 0, .int .i64 0, .int .u64 0, .int .u64 0, .int .u64 0, .string (⟨#[]⟩ : ByteArray)]) ?_ 0 _ rfl; (with_reducible repeat (first | refine blk_drewN ?_ _ | refine blk_drew ?_ | refine blk_alloc ?_ _)); exact BK166.out)) (below_size (hbl HB.out))); have n3_ := Aside0.mk (blk_below (g := gb166) (o := .cells #[.int .i64 t167, .int .i64 ((rd_T42 (rd_L5 l0 x16_1) x22_2).f1), .int .u64 ((rd_T42 (rd_L5 l0 x16_1) x22_2).f2), .int .u64 ((rd_T42 (rd_L5 l0 x16_1) x22_2).f3), .int .u64 ((rd_T42 (rd_L5 l0 x16_1) x22_2).f4), .string ((rd_T42 (rd_L5 l0 x16_1) x22_2).f5)] 42 (0, 0)) (by (with_reducible repeat (first | refine blk_drewN ?_ _ | refine blk_drew ?_ | refine blk_alloc ?_ _)); refine blk_put (cs := #[.int .i64 ((rd_T42 (rd_L5 l0 x16_1) x22_2).f0), .int .i64 ((rd_T42 (rd_L5 l0 x16_1) x22_2).f1), .int .u64 ((rd_T42 (rd_L5 l0 x16_1) x22_2).f2), .int .u64 ((rd_T42 (rd_L5 l0 x16_1) x22_2).f3), .int .u64 ((rd_T42 (rd_L5 l0 x16_1) x22_2).f4), .string ((rd_T42 (rd_L5 l0 x16_1) x22_2).f5)]) ?_ 0 _ rfl; (with_reducible repeat (first | refine blk_drewN ?_ _ | refine blk_drew ?_ | refine blk_alloc ?_ _)); refine blk_put (cs := #[.int .i64 ((rd_T42 (rd_L5 l0 x16_1) x22_2).f0), .int .i64 ((rd_T42 (rd_L5 l0 x16_1) x22_2).f1), .int .u64 ((rd_T42 (rd_L5 l0 x16_1) x22_2).f2), .int .u64 ((rd_T42 (rd_L5 l0 x16_1) x22_2).f3), .int .u64 ((rd_T42 (rd_L5 l0 x16_1) x22_2).f4), .string (⟨#[]⟩ : ByteArray)]) ?_ 5 _ rfl; (with_reducible repeat (first | refine blk_drewN ?_ _ | refine blk_drew ?_ | refine blk_alloc ?_ _)); refine blk_put (cs := #[.int .i64 ((rd_T42 (rd_L5 l0 x16_1) x22_2).f0), .int .i64 ((rd_T42 (rd_L5 l0 x16_1) x22_2).f1), .int .u64 ((rd_T42 (rd_L5 l0 x16_1) x22_2).f2), .int .u64 ((rd_T42 (rd_L5 l0 x16_1) x22_2).f3), .int .u64 0, .string (⟨#[]⟩ : ByteArray)]) ?_ 4 _ rfl; (with_reducible repeat (first | refine blk_drewN ?_ _ | refine blk_drew ?_ | refine blk_alloc ?_ _)); refine blk_put (cs := #[.int .i64 ((rd_T42 (rd_L5 l0 x16_1) x22_2).f0), .int .i64 ((rd_T42 (rd_L5 l0 x16_1) x22_2).f1), .int .u64 ((rd_T42 (rd_L5 l0 x16_1) x22_2).f2), .int .u64 0, .int .u64 0, .string (⟨#[]⟩ : ByteArray)]) ?_ 3 _ rfl; (with_reducible repeat (first | refine blk_drewN ?_ _ | refine blk_drew ?_ | refine blk_alloc ?_ _)); refine blk_put (cs := #[.int .i64 ((rd_T42 (rd_L5 l0 x16_1) x22_2).f0), .int .i64 ((rd_T42 (rd_L5 l0 x16_1) x22_2).f1), .int .u64 0, .int .u64 0, .int .u64 0, .string (⟨#[]⟩ : ByteArray)]) ?_ 2 _ rfl; (with_reducible repeat (first | refine blk_drewN ?_ _ | refine blk_drew ?_ | refine blk_alloc ?_ _)); refine blk_put (cs := #[.int .i64 ((rd_T42 (rd_L5 l0 x16_1) x22_2).f0), .int .i64 0, .int .u64 0, .int .u64 0, .int .u64 0, .string (⟨#[]⟩ : ByteArray)]) ?_ 1 _ rfl; (with_reducible repeat (first | refine blk_drewN ?_ _ | refine blk_drew ?_ | refine blk_alloc ?_ _)); refine blk_put (cs := #[.int .i64 0, .int .i64 0, .int .u64 0, .int .u64 0, .int .u64 0, .string (⟨#[]⟩ : ByteArray)]) ?_ 0 _ rfl; (with_reducible repeat (first | refine blk_drewN ?_ _ | refine blk_drew ?_ | refine blk_alloc ?_ _)); exact BK166.out) hb); have n4_ := Aside0.mk (below_step (hbl HB.out) hb); clear HO_4; clear HO_7; clear BK166; clear HB; have HO_4 := n0_; have HO_7 := n1_; have HO171 := n2_; have BK166 := n3_; have HB := n4_; clear n0_ n1_ n2_ n3_ n4_; clear hb ho22; obtain ⟨Ao24, co24, eo24⟩ := Kd.R_slice HO171.out; subst eo24) | ((with_reducible refine gate_builtin (b := .append) (xs := #[.tmp 41, .tmp 44]) rfl ?_); at_builtin; refine Kd.N_append (Kd.slice 42 k42) (w0 := w) w.heap.size rfl (.tmp 41) (.tmp 44) 62 73 (.slice none 0 0) 24 rfl Tryd.underlying62 info73 rfl (by decide) (by omega) u7 x7_2 y169 [.slice Ao24 y169.length co24] (fun k_ => (w.heap.size ≤ k_) ∧ some k_ ≠ (u4 : Value).ownBlock ∧ k_ ≠ gb166) (fun k_ => ((fun k_ => (w.heap.size ≤ k_) ∧ some k_ ≠ (u4 : Value).ownBlock ∧ k_ ≠ gb166)) k_ ∧ some k_ ≠ (u7 : Value).ownBlock) rfl rfl ?aP (fun _ hk => hk) ?aF ?aO ?aB ?aS ?aL ?_; (case aP => exact (Kd.FK_slice_mk (Kd.R_reads' (Kd.R_mono (ok' := (fun k_ => ((fun k_ => (w.heap.size ≤ k_) ∧ some k_ ≠ (u4 : Value).ownBlock ∧ k_ ≠ gb166)) k_ ∧ some k_ ≠ (u7 : Value).ownBlock)) (Kd.R_apart' (Kd.R_apart' (HO171.out) (Kd.N_typed HO_4.out) (by decide)) (Kd.N_typed HO_7.out) (by decide)) (fun k_ hk => ⟨⟨hk.1.1.1.1, ⟨hk.1.2, hk.1.1.2⟩⟩, hk.2⟩))).2.1 (Kd.R_F (Kd.R_mono (ok' := (fun k_ => ((fun k_ => (w.heap.size ≤ k_) ∧ some k_ ≠ (u4 : Value).ownBlock ∧ k_ ≠ gb166)) k_ ∧ some k_ ≠ (u7 : Value).ownBlock)) (Kd.R_apart' (Kd.R_apart' (HO171.out) (Kd.N_typed HO_4.out) (by decide)) (Kd.N_typed HO_7.out) (by decide)) (fun k_ hk => ⟨⟨hk.1.1.1.1, ⟨hk.1.2, hk.1.1.2⟩⟩, hk.2⟩))))); (case aB => exact (hbl HB.out)); (case aF => exact (fun k_ hk => ⟨(Nat.le_trans (below_size (hbl HB.out)) hk), Kd.fresh' (Kd.N_lt (by (with_reducible repeat (first | apply Kd.N_alloc | apply Kd.N_drewN | apply Kd.N_drew)); exact HO_4.out)) k_ hk, Kd.freshB (hbk BK166.out) k_ hk⟩)); (case aO => exact (by (with_reducible repeat (first | apply Kd.N_alloc | apply Kd.N_drewN | apply Kd.N_drew)); exact Kd.N_mono HO_7.out (fun _ hk => ⟨hk.1.1.1, ⟨hk.1.1.2, hk.1.2⟩⟩))); (case aS => exact (below_size (hbl HB.out))); (case aL => have := LMc18.out; omega); intro v173 w23 ho hb hg hat; rw [← Ny172.out] at ho; have n0_ := Aside0.mk (Kd.N_afterv (ok := (fun k_ => (w.heap.size ≤ k_) ∧ some k_ ≠ (.slice Ao24 y169.length co24 : Value).ownBlock ∧ k_ ≠ gb166)) (by (with_reducible repeat (first | apply Kd.N_alloc | apply Kd.N_drewN | apply Kd.N_drew)); exact Kd.N_mono HO_4.out (fun _ hk => ⟨⟨hk.1.1.1, ⟨hk.2, hk.1.2⟩⟩, hk.1.1.2⟩)) hg hat); have n1_ := Aside0.mk (blk_grown (hbk BK166.out) hg (Kd.N_ne HO_7.out BK166.out (by decide))); have n2_ := Aside0.mk (hb); have n3_ := Aside0.mk (ho); clear HO_4; clear BK166; clear HB; clear HO_7; clear HO171; have HO_4 := n0_; have BK166 := n1_; have HB := n2_; have HO174 := n3_; clear n0_ n1_ n2_ n3_; clear ho hb hg hat))
              go_roundg k2
              case measure => have := HK1.out; have := HK2.out; omega
              case rel => exact ⟨(y172), (wrap64 (x22_2 + 1)), hrf, H', ⟨by have := HK1.out; have := HK2.out; omega⟩, ⟨by (with_reducible repeat (first | apply Kd.N_alloc | apply Kd.N_drewN | apply Kd.N_drew)); exact Kd.N_mono HO_4.out (fun _ hk => ⟨hk.1.1, hk.2⟩)⟩, ⟨by (with_reducible repeat (first | apply Kd.N_alloc | apply Kd.N_drewN | apply Kd.N_drew)); exact Kd.N_mono HO174.out (fun _ hk => ⟨hk.1, hk.2.1⟩)⟩, ⟨hbl HB.out⟩⟩
             ·
              rw [if_neg c18] at H
              exact absurd H (by simp)
           ·
            replace c14 := Bool.eq_false_iff.mpr c14
            subst c14
            have H1 : (some (([] : List (List (S42))), false)) = some (r1, r2) := by rw [if_neg (show ¬ (false = true) by decide)] at H; exact H
            clear H
            have H := H1
            clear H1
            simp only [Option.some.injEq, Prod.mk.injEq] at H
            obtain ⟨rfl, rfl⟩ := H
            have p165 : 0 ≤ (x22_2 : Int) := of_decide_eq_true (by assumption)
            have q165 : x22_2 < ((rd_L5 l0 x16_1).length : Int) := of_decide_eq_true (by assumption)
            obtain ⟨ad165, e165, hx165_0, hx165_1, hx165_2, hx165_3, hx165_4, hx165_5⟩ := at_T42 HR164_0.out x22_2 p165 q165
            cases e165
            replace hx165_0 := (HB.out.cell (World.block_lt_of_cell? w _ hx165_0)).trans hx165_0
            replace hx165_1 := (HB.out.cell (World.block_lt_of_cell? w _ hx165_1)).trans hx165_1
            replace hx165_2 := (HB.out.cell (World.block_lt_of_cell? w _ hx165_2)).trans hx165_2
            replace hx165_3 := (HB.out.cell (World.block_lt_of_cell? w _ hx165_3)).trans hx165_3
            replace hx165_4 := (HB.out.cell (World.block_lt_of_cell? w _ hx165_4)).trans hx165_4
            replace hx165_5 := (HB.out.cell (World.block_lt_of_cell? w _ hx165_5)).trans hx165_5
            replace p165 := eq_true p165
            replace q165 := eq_true q165
            go_wp2_with (first | ((with_reducible refine gate_dst (N := 9) rfl ?_); refine box_event ?hg (N := 9) ?hd (cs := #[.int .i64 0, .int .i64 0, .int .u64 0, .int .u64 0, .int .u64 0, .string (⟨#[]⟩ : ByteArray)]) (t := 42) ?hr ?_; (case hd => rfl); (case hg => rfl); (case hr => first | (go_simp; done) | (go_simp; rfl)); intro gb166 hg w25 hbox hb; have n0_ := Aside0.mk (Kd.N_below (Kd.N_elderB (by (with_reducible repeat (first | apply Kd.N_alloc | apply Kd.N_drewN | apply Kd.N_drew)); exact HO_4.out) gb166 (Nat.le_of_eq hg.symm)) hb); have n1_ := Aside0.mk (Kd.N_below (Kd.N_elderB (by (with_reducible repeat (first | apply Kd.N_alloc | apply Kd.N_drewN | apply Kd.N_drew)); exact HO_7.out) gb166 (Nat.le_of_eq hg.symm)) hb); have n2_ := Aside0.mk (below_step (hbl HB.out) hb); have n3_ := Aside0.mk (hbox); have n4_ := Aside0.mk ((by rw [hg]; exact (below_size (hbl HB.out)) : w.heap.size ≤ gb166)); have n5_ := Aside0.mk ((by rw [hg]; exact (below_size (hbl HB.out)) : w.heap.size ≤ gb166)); clear HO_4; clear HO_7; clear HB; have HO_4 := n0_; have HO_7 := n1_; have HB := n2_; have BK166 := n3_; have GW166 := n4_; have GE166 := n5_; clear n0_ n1_ n2_ n3_ n4_ n5_; clear hb hbox hg; have hcz26_0 : w25.cell? ⟨gb166, 0, none⟩ = some (.int .i64 0) := (blk_cell BK166.out 0).trans rfl; have hcz26_1 : w25.cell? ⟨gb166, 1, none⟩ = some (.int .i64 0) := (blk_cell BK166.out 1).trans rfl; have hcz26_2 : w25.cell? ⟨gb166, 2, none⟩ = some (.int .u64 0) := (blk_cell BK166.out 2).trans rfl; have hcz26_3 : w25.cell? ⟨gb166, 3, none⟩ = some (.int .u64 0) := (blk_cell BK166.out 3).trans rfl; have hcz26_4 : w25.cell? ⟨gb166, 4, none⟩ = some (.int .u64 0) := (blk_cell BK166.out 4).trans rfl; have hcz26_5 : w25.cell? ⟨gb166, 5, none⟩ = some (.string (⟨#[]⟩ : ByteArray)) := (blk_cell BK166.out 5).trans rfl; have hfz26_0 := blk_frozen BK166.out 0; have hfz26_1 := blk_frozen BK166.out 1; have hfz26_2 := blk_frozen BK166.out 2; have hfz26_3 := blk_frozen BK166.out 3; have hfz26_4 := blk_frozen BK166.out 4; have hfz26_5 := blk_frozen BK166.out 5) | ((with_reducible refine gate_callee (f := 116) rfl ?_); refine goesL_ (some 29) rfl rfl Tryd.func116 (by kernel_rfl) rfl #[.int .i64 ((rd_T42 (rd_L5 l0 x16_1) x22_2).f0)] rfl (by (try simp only [List.map_toArray, List.map_cons, List.map_nil]); first | done | rfl | (simp only [List.length_drop, List.length_take]; rfl)) ?_; (with_reducible refine (spec_Opposite.calls ((rd_T42 (rd_L5 l0 x16_1) x22_2).f0) t167 false _ A13.out).mono ?_); rintro e w' ⟨rfl, ⟨nd, rfl⟩⟩; refine ⟨_, rfl, ?_⟩))
            go_ret2
            exact ⟨_, hrf, by first | exact Kd.S_nil _ _ _ _ _ | exact Kd.N_nil _ _ _ _ _ | exact Kd.V_nil _ _ _ _ _ | exact Kd.Q_nil _ _ _ _ _ | exact Kd.R_nil _ _ _ _ _, hbl HB.out⟩
          ·
           rw [if_neg c12] at H
           exact absurd H (by simp)
         ·
          rw [if_neg c11] at H
          exact absurd H (by simp)
        ·
         rw [if_neg c10] at H
         have c10b0 : decide (x22_2 < ((rd_L5 l0 x16_1).length : Int)) = false := decide_eq_false c10
         clear c10
         replace H := Option.bind_eq_some_iff.mp H
         obtain ⟨t175, A270, H⟩ := H
         replace H : (spec_Complement.l0 k2 t175 l0 (l0.length : Int) (wrap64 (x16_1 + 1))) = some (r1, r2) := H
         have A27 := Aside0.mk A270
         clear A270
         have H' := Aside0.mk H
         clear H
         obtain ⟨Ao28, co28, eo28⟩ := Kd.N_slice HO_4.out
         subst eo28
         obtain ⟨Ao29, co29, eo29⟩ := Kd.N_slice HO_7.out
         subst eo29
         go_wp2_with (first | ((with_reducible refine gate_callee (f := 117) rfl ?_); refine goesL_ (some 49) rfl rfl Tryd.func117 (by kernel_rfl) rfl #[.slice Ao28 x4_1.length co28, .slice Ao29 x7_2.length co29] rfl (by (try simp only [List.map_toArray, List.map_cons, List.map_nil]); first | done | rfl | (simp only [List.length_drop, List.length_take]; rfl)) ?_; (with_reducible refine (spec_Cross.calls k2 _ _ x4_1 _ _ x7_2 t175 _ ?side1 ?side2 ?side3 ?side4 A27.out).mono ?_); (case side1 => repeat (first | exact (Kd.N_reads' HO_4.out).2.2 | (with_reducible refine Kd.C_alloc ?_ _) | (with_reducible refine Kd.C_drewN ?_ _) | (with_reducible refine Kd.C_drew ?_))); (case side2 => exact (Kd.N_reads' HO_4.out).2.1); (case side3 => repeat (first | exact (Kd.N_reads' HO_7.out).2.2 | (with_reducible refine Kd.C_alloc ?_ _) | (with_reducible refine Kd.C_drewN ?_ _) | (with_reducible refine Kd.C_drew ?_))); (case side4 => exact (Kd.N_reads' HO_7.out).2.1); rintro e w30 ⟨v176, rfl, ho0, hb⟩; refine ⟨_, rfl, ?_⟩; have n0_ := Aside0.mk (Kd.N_elder' (by (with_reducible repeat (first | apply Kd.N_alloc | apply Kd.N_drewN | apply Kd.N_drew)); exact HO_4.out) (Kd.S_base ho0) hb); have n1_ := Aside0.mk (Kd.N_elder' (by (with_reducible repeat (first | apply Kd.N_alloc | apply Kd.N_drewN | apply Kd.N_drew)); exact HO_7.out) (Kd.S_base ho0) hb); have n2_ := Aside0.mk (Kd.N_lower (Kd.N_mono (ok' := fun k_ => (w.heap.size ≤ k_) ∧ some k_ ≠ (.slice Ao28 x4_1.length co28 : Value).ownBlock ∧ some k_ ≠ (.slice Ao29 x7_2.length co29 : Value).ownBlock) (Kd.S_N (Kd.S_bound ho0)) (fun k_ hk_ => ⟨(Nat.le_trans (below_size (hbl HB.out)) hk_.2.1), (Kd.fresh' (Kd.N_lt (by (with_reducible repeat (first | apply Kd.N_alloc | apply Kd.N_drewN | apply Kd.N_drew)); exact HO_4.out)) k_ hk_.2.1), (Kd.fresh' (Kd.N_lt (by (with_reducible repeat (first | apply Kd.N_alloc | apply Kd.N_drewN | apply Kd.N_drew)); exact HO_7.out)) k_ hk_.2.1)⟩)) (below_size (hbl HB.out))); have n3_ := Aside0.mk (below_step (hbl HB.out) hb); clear HO_4; clear HO_7; clear HB; have HO_4 := n0_; have HO_7 := n1_; have HO177 := n2_; have HB := n3_; clear n0_ n1_ n2_ n3_; (try clear hb); (try clear hb2); (try clear hk); (try clear hi); (try clear ho0)))
         go_roundg k2
         case measure => have := HK1.out; have := HK2.out; omega
         case rel => exact ⟨(t175), (wrap64 (x16_1 + 1)), hrf, H', ⟨by have := HK1.out; have := HK2.out; omega⟩, ⟨by (with_reducible repeat (first | apply Kd.N_alloc | apply Kd.N_drewN | apply Kd.N_drew)); exact Kd.N_mono HO177.out (fun _ hk => hk.1)⟩, ⟨hbl HB.out⟩⟩
     ·
      rw [if_neg c9] at H
      exact absurd H (by simp)
    ·
     rw [if_neg c8] at H
     exact absurd H (by simp)
   ·
    rw [if_neg c7] at H
    have c7b0 : decide (x16_1 < (l0.length : Int)) = false := decide_eq_false c7
    clear c7
    simp only [Option.some.injEq, Prod.mk.injEq] at H
    obtain ⟨rfl, rfl⟩ := H
    go_wp2
    go_ret2
    exact ⟨_, hrf, by (with_reducible repeat (first | apply Kd.N_alloc | apply Kd.N_drewN | apply Kd.N_drew)); exact HO_4.out, hbl HB.out⟩

-- NOT PRINTED: function 17 (laws_FnSemverComplement)


end Go.Proofs.YtalpehfjjidfhaaDoor.MP
