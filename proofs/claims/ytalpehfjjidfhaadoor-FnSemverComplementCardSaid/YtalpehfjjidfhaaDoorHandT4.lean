/- What is proved: by hand, the check of a version against lists of constraints. -/
import Derived.Test.YtalpehfjjidfhaaDoorHandT3
import Derived.Test.YtalpehfjjidfhaaDoorHandC8
namespace Go.Proofs.YtalpehfjjidfhaaDoor.Hand
set_option linter.unusedVariables false
set_option linter.unusedSimpArgs false
open Go.RowKit Go.Proofs.YtalpehfjjidfhaaDoorW.PrintWords Go.Proofs.YtalpehfjjidfhaaDoorW.PrintLast Go.Proofs.YtalpehfjjidfhaaDoorW.PrintMore Sv
/-- Whether a term says of a version that it holds; o: prereleases are let in. -/
def sayT (M m t : Int) (u : ByteArray) (o : Bool) (x : S42) : Bool := openB o u && saysB x.f0 (cmpVer M m t u x.f2 x.f3 x.f4 x.f5) (MA.cmpPre u x.f5) M m t u.toList.isEmpty x.f2 x.f3 x.f4 x.f5.toList.isEmpty (decide (x.f1 < 3)) (x.f1 == 1) (x.f1 == 2)
def hasP (ts : List S42) : Bool := ts.any fun x => x.f5.toList != []
def listHolds (M m t : Int) (u : ByteArray) (pre : Bool) (ts : List S42) : Bool := ts.all (sayT M m t u (pre || hasP ts))
def termsHold (M m t : Int) (u : ByteArray) (pre : Bool) (l : List (List S42)) : Bool := l.any (listHolds M m t u pre)
def zq0 : S42 × Nat × Nat := (z42, 0, 0)
theorem at_Lq {w : World} {A : Option Addr} {n : Nat} {xs : List (List (S42 × Nat × Nat))} (h : Kd.C (Kd.slice 133 kq) w A n xs) (i : Int) (h0 : 0 ≤ i) (h1 : i < n) : ∃ ad A0 c0, A = some ad ∧ w.cell? (ad.add i.toNat) = some (.slice A0 (xs.getD i.toNat []).length c0) ∧ (xs.getD i.toNat []).length ≤ c0 ∧ kq.C w A0 (xs.getD i.toNat []).length (xs.getD i.toNat []) := by
 obtain ⟨ad, c, e, _, hK, hc0⟩ := Kd.C_get h ([] : List (S42 × Nat × Nat)) i h0 h1
 have hc : ∀ j u, c[j]? = some u → w.cell? (ad.add (i.toNat * 1 + j)) = some u := hc0
 obtain ⟨A0, c0, rfl, l0, g0⟩ := hK
 exact ⟨ad, A0, c0, e, by have hq := hc 0 _ rfl; rwa [Nat.mul_one, Nat.add_zero] at hq, l0, g0⟩
theorem at_Tq {w : World} {A : Option Addr} {n : Nat} {xs : List (S42 × Nat × Nat)} (h : kq.C w A n xs) (i : Int) (h0 : 0 ≤ i) (h1 : i < n) : ∃ ad, A = some ad ∧ w.cell? (ad.add i.toNat) = some (.pointer (some ⟨(xs.getD i.toNat zq0).2.2, 0, none⟩)) ∧ QAt w (xs.getD i.toNat zq0).2.2 (xs.getD i.toNat zq0).2.1 (opText (xs.getD i.toNat zq0).1.f0) (decide ((xs.getD i.toNat zq0).1.f1 < 3)) ((xs.getD i.toNat zq0).1.f1 == 1) ((xs.getD i.toNat zq0).1.f1 == 2) := by
 obtain ⟨ad, c, e, _, hK, hc0⟩ := Kd.C_get h zq0 i h0 h1
 have hc : ∀ j u, c[j]? = some u → w.cell? (ad.add (i.toNat * 1 + j)) = some u := hc0
 obtain ⟨rfl, hP⟩ := hK
 exact ⟨ad, e, by have hq := hc 0 _ rfl; rwa [Nat.mul_one, Nat.add_zero] at hq, hP⟩
theorem at_B {w : World} {A : Option Addr} {n : Nat} {xs : List Bool} (h : Kd.C Kd.bool w A n xs) (i : Int) (h0 : 0 ≤ i) (h1 : i < n) : ∃ ad, A = some ad ∧ w.cell? (ad.add i.toNat) = some (.bool (xs.getD i.toNat false)) := by
 obtain ⟨ad, c, e, _, hK, hc0⟩ := Kd.C_get h false i h0 h1
 have hc : ∀ j u, c[j]? = some u → w.cell? (ad.add (i.toNat * 1 + j)) = some u := hc0
 have hK' : c = [Value.bool (xs.getD i.toNat false)] := hK
 subst hK'
 exact ⟨ad, e, by have hq := hc 0 _ rfl; rwa [Nat.mul_one, Nat.add_zero] at hq⟩
theorem drop_get {α : Type} (l : List α) (z : α) (j : Nat) (hj : j < l.length) : l.drop j = l.getD j z :: l.drop (j + 1) := by
 rw [List.drop_eq_getElem_cons hj, List.getD_eq_getElem?_getD, List.getElem?_eq_getElem hj]
 rfl
theorem getD_mem {α : Type} (l : List α) (z : α) (j : Nat) (hj : j < l.length) : l.getD j z ∈ l := by
 rw [List.getD_eq_getElem?_getD, List.getElem?_eq_getElem hj]
 exact List.getElem_mem _
/-- What is asked of a constraint, of a version at block a. -/
def OkQ (w : World) (a : Nat) (y : S42 × Nat × Nat) : Prop := 0 ≤ y.1.f0 ∧ y.1.f0 < 8 ∧ y.1.f5.size < 8796093022208 ∧ a ≠ y.2.1 ∧ PAt w y.2.1 y.1.f2 y.1.f3 y.1.f4 y.1.f5
theorem flag_at (L : List (List (S42 × Nat × Nat))) (j : Nat) (hj : j < L.length) : (L.map fun x => hasP (x.map fun y => y.1)).getD j false = hasP ((L.getD j []).map fun y => y.1) := by
 rw [List.getD_eq_getElem?_getD, List.getElem?_map, List.getD_eq_getElem?_getD, List.getElem?_eq_getElem hj]
 rfl
set_option maxHeartbeats 8000000 in
set_option maxRecDepth 100000 in
theorem Check_any (M m t : Int) (u v : ByteArray) (a : Nat) (b : Bool) (A1 A2 : Option Addr) (c1 c2 : Nat) (L : List (List (S42 × Nat × Nat))) (fs : List Bool) (w : World) (hG0 : Gl w) (su : u.size < 8796093022208) (hV : VAt w a M m t u v) (hA : HAt w a) (hL : Kd.C (Kd.slice 133 kq) w A1 L.length L) (hF : Kd.C Kd.bool w A2 fs.length fs) (hfs : fs = L.map (fun x => hasP (x.map fun y => y.1))) (hP : ∀ x ∈ L, x.length ≤ 2147483647 ∧ ∀ y ∈ x, OkQ w a y) (hn : L.length ≤ 2147483647) :
  Calls Tryd.prog 120 #[.agg #[.slice A1 L.length c1, .slice A2 fs.length c2, .bool b], .pointer (some ⟨a, 0, none⟩)] w fun e w' => e = .returned (.bool (L.any fun x => listHolds M m t u b (x.map fun y => y.1))) ∧ Below w.heap.size w w' := by
 have HL0 := Aside0.mk hL
 have HF0 := Aside0.mk hF
 have HP0 := Aside0.mk hP
 have HV0 := Aside0.mk hV
 have HA0 := Aside0.mk hA
 have HG := Aside0.mk hG0
 have hlen : fs.length = L.length := by rw [hfs, List.length_map]
 have HFS := Aside0.mk hfs
 have HLEN := Aside0.mk hlen
 have HB := Aside0.mk (Below.refl w.heap.size w)
 clear hL hF hP hV hA hG0 hfs hlen
 go_enter Tryd.func120, Tryd.ntmps120
 go_wp2_with (first
  | ((with_reducible refine gate_dst (N := 2) rfl ?_); refine box_event ?hg (N := 2) ?hd (cs := #[.slice A1 L.length c1, .slice A2 fs.length c2, .bool b]) (t := 113) ?hr ?_; (case hd => rfl); (case hg => rfl); (case hr => first | (go_simp; done) | (go_simp; rfl)); intro g2 hg wb hbox hb; have n0_ := Aside0.mk (below_step HB.out hb); have n1_ := Aside0.mk hbox; clear HB; have HB := n0_; have BK := n1_; clear n0_ n1_; clear hb hbox hg; have hz0 : wb.cell? ⟨g2, 0, none⟩ = some (.slice A1 L.length c1) := (blk_cell BK.out 0).trans rfl; have hz1 : wb.cell? ⟨g2, 1, none⟩ = some (.slice A2 fs.length c2) := (blk_cell BK.out 1).trans rfl; have hz2 : wb.cell? ⟨g2, 2, none⟩ = some (.bool b) := (blk_cell BK.out 2).trans rfl))
 go_loopg [15] L.length (fun kq_ v15 w' => ∃ (x : Int), v15 = .int .i64 x ∧ Aside0 (0 ≤ x ∧ x + kq_ = L.length) ∧ Aside0 ((L.drop x.toNat).any (fun x => listHolds M m t u b (x.map fun y => y.1)) = L.any fun x => listHolds M m t u b (x.map fun y => y.1)) ∧ Aside0 (w'.heap[g2]? = some (.cells #[.slice A1 L.length c1, .slice A2 fs.length c2, .bool b] 113 (0, 0))) ∧ Aside0 (Below w.heap.size w w'))
 case atStart => exact ⟨0, rfl, ⟨by omega⟩, ⟨rfl⟩, BK, HB⟩
 case round =>
  clear BK HB hz0 hz1 hz2
  obtain ⟨x, rfl, HX, HD, BK, HB⟩ := hrel
  have hx := HX.out
  by_cases c3 : x < (L.length : Int)
  ·
   have c3b0 : decide (x < (L.length : Int)) = true := decide_eq_true c3
   obtain ⟨k1, rfl⟩ : ∃ k1, gk = k1 + 1 := ⟨gk - 1, by omega⟩
   have p1 : 0 ≤ x := hx.1
   have c3' : x < (fs.length : Int) := by have := HLEN.out; omega
   obtain ⟨ad1, B1, d1, e1, hx1, hl1, hi1⟩ := at_Lq HL0.out x p1 c3
   cases e1
   replace hx1 := (HB.out.cell (World.block_lt_of_cell? w _ hx1)).trans hx1
   obtain ⟨ad2, e2, hx2⟩ := at_B HF0.out x p1 c3'
   cases e2
   have HFL := Aside0.mk hx2
   have hfl : fs.getD x.toNat false = hasP ((L.getD x.toNat []).map fun y => y.1) := by
    rw [HFS.out]
    exact flag_at L x.toNat (by omega)
   have HR1 := Aside0.mk hi1
   have HM1 := Aside0.mk (HP0.out _ (getD_mem L [] x.toNat (by omega)))
   have hdr : (L.drop x.toNat).any (fun x => listHolds M m t u b (x.map fun y => y.1)) = (listHolds M m t u b ((L.getD x.toNat []).map fun y => y.1) || (L.drop (x.toNat + 1)).any (fun x => listHolds M m t u b (x.map fun y => y.1))) := by
    rw [drop_get L [] x.toNat (by omega), List.any_cons]
   have hdx := hdr.symm.trans HD.out
   have HX2 : Aside0 (0 ≤ x ∧ x + 1 + k1 = L.length ∧ x < 2147483647) := ⟨by omega⟩
   generalize hxs : L.getD x.toNat [] = xs at hx1 hl1 HR1 HM1 hfl hdx
   generalize hff : fs.getD x.toNat false = fl at HFL hfl
   have hlh : listHolds M m t u b (xs.map fun y => y.1) = xs.all (fun y => sayT M m t u (b || fl) y.1) := by
    rw [listHolds, ← hfl, List.all_map]
    rfl
   rw [hlh] at hdx
   have HDX := Aside0.mk hdx
   have hk0 : wr.cell? ⟨g2, 0, none⟩ = some (.slice (some ad1) L.length c1) := (blk_cell BK.out 0).trans rfl
   clear hi1 hdr hdx hlh hfl HD hx HX hxs hff hx2
   replace p1 := eq_true p1
   replace c3 := eq_true c3
   replace c3' := eq_true c3'
   go_wp2
   go_loopg [7, 22] xs.length (fun kq_ v7 v22 w' => ∃ (y : Int), v7 = .bool true ∧ v22 = .int .i64 y ∧ Aside0 (0 ≤ y ∧ y + kq_ = xs.length) ∧ Aside0 ((xs.drop y.toNat).all (fun y => sayT M m t u (b || fl) y.1) = xs.all fun y => sayT M m t u (b || fl) y.1) ∧ Aside0 (w'.heap[g2]? = some (.cells #[.slice (some ad1) L.length c1, .slice (some ad2) fs.length c2, .bool b] 113 (0, 0))) ∧ Aside0 (Below w.heap.size w w'))
   case atStart => exact ⟨0, rfl, rfl, ⟨by omega⟩, ⟨rfl⟩, BK, HB⟩
   case round =>
    clear BK HB hk0
    obtain ⟨y, rfl, rfl, HY, HE, BK, HB⟩ := hrel
    have hy := HY.out
    by_cases d3 : y < (xs.length : Int)
    ·
     have d3b0 : decide (y < (xs.length : Int)) = true := decide_eq_true d3
     obtain ⟨k2, rfl⟩ : ∃ k2, gk = k2 + 1 := ⟨gk - 1, by omega⟩
     have q1 : 0 ≤ y := hy.1
     obtain ⟨ad3, e3, hy1, hq1⟩ := at_Tq HR1.out y q1 d3
     cases e3
     replace hy1 := (HB.out.cell (World.block_lt_of_cell? w _ hy1)).trans hy1
     have hok := HM1.out.2 _ (getD_mem xs zq0 y.toNat (by omega))
     unfold OkQ at hok
     have hdr : (xs.drop y.toNat).all (fun y => sayT M m t u (b || fl) y.1) = (sayT M m t u (b || fl) (xs.getD y.toNat zq0).1 && (xs.drop (y.toNat + 1)).all (fun y => sayT M m t u (b || fl) y.1)) := by
      rw [drop_get xs zq0 y.toNat (by omega), List.all_cons]
     have hdx := hdr.symm.trans HE.out
     have HY2 : Aside0 (0 ≤ y ∧ y + 1 + k2 = xs.length ∧ y < 2147483647) := ⟨by have := HM1.out.1; omega⟩
     have HFL2 := HFL.out
     replace HFL2 := (HB.out.cell (World.block_lt_of_cell? w _ HFL2)).trans HFL2
     generalize xs.getD y.toNat zq0 = tp at hy1 hq1 hok hdx
     obtain ⟨tt, p, q⟩ := tp
     dsimp only at hy1 hq1 hdx
     obtain ⟨o0, o1, o2, o3, o4⟩ := hok
     dsimp only at o0 o1 o2 o3 o4
     obtain ⟨o, ho⟩ : ∃ o, o = (b || fl) := ⟨_, rfl⟩
     have X : ∀ w1 : World, Below w.heap.size w w1 → Calls Tryd.prog 156 #[.pointer (some ⟨q, 0, none⟩), .pointer (some ⟨a, 0, none⟩), .bool o] w1 fun e w' => (∃ ev, e = .returned (.tuple #[.bool (sayT M m t u o tt), ev])) ∧ Below w1.heap.size w1 w' :=
      fun w1 hb => checkOp_any tt.f0 ⟨o0, o1⟩ M m t u v tt.f2 tt.f3 tt.f4 tt.f5 ⟨#[]⟩ (decide (tt.f1 < 3)) (tt.f1 == 1) (tt.f1 == 2) a p q w1 (HG.out.below hb) su o2 (HV0.out.below hb) (o4.v.below hb) (hq1.k.below hb) o o3 (HA0.out.below hb) (o4.h.below hb)
     rw [← ho] at hdx
     have HO := Aside0.mk ho
     generalize sayT M m t u o tt = rr at X hdx
     have HDY := Aside0.mk hdx
     have XX := Aside0.mk X
     clear hq1 hdr hdx HE hy HY o0 o1 o2 o3 o4 ho X
     have hk1 : wr.cell? ⟨g2, 1, none⟩ = some (.slice (some ad2) fs.length c2) := (blk_cell BK.out 1).trans rfl
     have hk2 : wr.cell? ⟨g2, 2, none⟩ = some (.bool b) := (blk_cell BK.out 2).trans rfl
     replace q1 := eq_true q1
     replace d3 := eq_true d3
     cases b
     ·
      have ho2 := HO.out
      rw [Bool.false_or] at ho2
      subst ho2
      cases rr
      ·
       go_wp2_with (first | (go_at_call 156; (with_reducible refine (XX.out _ HB.out).mono ?_); rintro e w1 ⟨⟨ev, rfl⟩, hb⟩; have n0_ := Aside0.mk (below_step HB.out hb); have n1_ := Aside0.mk (blk_below BK.out hb); clear HB BK hb; have HB := n0_; have BK := n1_; clear n0_ n1_))
       go_roundg k1
       case measure => omega
       case rel => exact ⟨wrap64 (x + 1), rfl, ⟨by have := HX2.out; rw [IntWalk.wrap64_in _ (by omega)]; omega⟩, ⟨by have := HX2.out; rw [IntWalk.wrap64_in _ (by omega), show (x + 1).toNat = x.toNat + 1 by omega]; have h1 := HDX.out; have h2 := HDY.out; rw [Bool.false_and] at h2; rw [← HO.out] at h1; rw [← h2, Bool.false_or] at h1; exact h1⟩, BK, HB⟩
      ·
       go_wp2_with (first | (go_at_call 156; (with_reducible refine (XX.out _ HB.out).mono ?_); rintro e w1 ⟨⟨ev, rfl⟩, hb⟩; have n0_ := Aside0.mk (below_step HB.out hb); have n1_ := Aside0.mk (blk_below BK.out hb); clear HB BK hb; have HB := n0_; have BK := n1_; clear n0_ n1_))
       go_roundg k2
       case measure => omega
       case rel => exact ⟨wrap64 (y + 1), rfl, rfl, ⟨by have := HY2.out; rw [IntWalk.wrap64_in _ (by omega)]; omega⟩, ⟨by have := HY2.out; rw [IntWalk.wrap64_in _ (by omega), show (y + 1).toNat = y.toNat + 1 by omega]; have h2 := HDY.out; rw [Bool.true_and] at h2; rw [← HO.out]; exact h2⟩, BK, HB⟩
     ·
      have ho2 := HO.out
      rw [Bool.true_or] at ho2
      subst ho2
      cases rr
      ·
       go_wp2_with (first | (go_at_call 156; (with_reducible refine (XX.out _ HB.out).mono ?_); rintro e w1 ⟨⟨ev, rfl⟩, hb⟩; have n0_ := Aside0.mk (below_step HB.out hb); have n1_ := Aside0.mk (blk_below BK.out hb); clear HB BK hb; have HB := n0_; have BK := n1_; clear n0_ n1_))
       go_roundg k1
       case measure => omega
       case rel => exact ⟨wrap64 (x + 1), rfl, ⟨by have := HX2.out; rw [IntWalk.wrap64_in _ (by omega)]; omega⟩, ⟨by have := HX2.out; rw [IntWalk.wrap64_in _ (by omega), show (x + 1).toNat = x.toNat + 1 by omega]; have h1 := HDX.out; have h2 := HDY.out; rw [Bool.false_and] at h2; rw [← HO.out] at h1; rw [← h2, Bool.false_or] at h1; exact h1⟩, BK, HB⟩
      ·
       go_wp2_with (first | (go_at_call 156; (with_reducible refine (XX.out _ HB.out).mono ?_); rintro e w1 ⟨⟨ev, rfl⟩, hb⟩; have n0_ := Aside0.mk (below_step HB.out hb); have n1_ := Aside0.mk (blk_below BK.out hb); clear HB BK hb; have HB := n0_; have BK := n1_; clear n0_ n1_))
       go_roundg k2
       case measure => omega
       case rel => exact ⟨wrap64 (y + 1), rfl, rfl, ⟨by have := HY2.out; rw [IntWalk.wrap64_in _ (by omega)]; omega⟩, ⟨by have := HY2.out; rw [IntWalk.wrap64_in _ (by omega), show (y + 1).toNat = y.toNat + 1 by omega]; have h2 := HDY.out; rw [Bool.true_and] at h2; rw [← HO.out]; exact h2⟩, BK, HB⟩
    ·
     have d3b0 : decide (y < (xs.length : Int)) = false := decide_eq_false d3
     have hall : xs.all (fun y => sayT M m t u (b || fl) y.1) = true := by rw [← HE.out, show y.toNat = xs.length by omega, List.drop_length]; rfl
     have hres : (L.any fun x => listHolds M m t u b (x.map fun y => y.1)) = true := by have h1 := HDX.out; rw [hall, Bool.true_or] at h1; exact h1.symm
     have HRES := Aside0.mk hres
     clear hall hres d3 hy HY HE
     go_wp2
     go_ret
     exact ⟨by rw [HRES.out]; rfl, HB.out⟩
  ·
   have c3b0 : decide (x < (L.length : Int)) = false := decide_eq_false c3
   have hres : (L.any fun x => listHolds M m t u b (x.map fun y => y.1)) = false := by rw [← HD.out, show x.toNat = L.length by omega, List.drop_length]; rfl
   have HRES := Aside0.mk hres
   clear hres c3 hx HX HD
   go_wp2
   go_ret
   exact ⟨by rw [HRES.out]; rfl, HB.out⟩
end Go.Proofs.YtalpehfjjidfhaaDoor.Hand
