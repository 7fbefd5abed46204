/- What is proved: by hand, = and ~ over terms, as the thin package has them. -/
import Derived.Test.YtalpehfjjidfhaaDoorHandX
import Derived.Test.YtalpehfjjidfhaaDoorHandQ
namespace Go.Proofs.YtalpehfjjidfhaaDoor.Hand
set_option linter.unusedVariables false
set_option linter.unusedSimpArgs false
open Go.RowKit Go.Proofs.YtalpehfjjidfhaaDoorW.PrintWords Sv
theorem heap_last3 (w : World) (o1 o2 o3 : Obj) : ((((w.alloc o1).alloc o2).alloc o3).drew).heap[w.heap.size + 1 + 1]? = some o3 := by
  show (((w.heap.push o1).push o2).push o3)[w.heap.size + 1 + 1]? = some o3
  rw [Array.getElem?_push, if_pos (by simp)]
set_option maxHeartbeats 1000000 in
theorem term_at (op g M m t : Int) (u : ByteArray) (h0 : 0 ≤ g) (w : World) : Calls Tryd.prog 94 #[.agg #[.int .i64 op, .int .i64 g, .int .u64 M, .int .u64 m, .int .u64 t, .string u]] w fun e w' => ∃ N : Nat, e = .returned (.agg #[.string (opText op), .pointer (some ⟨N, 0, none⟩), .bool (decide (g < 3)), .bool (g == 1), .bool (g == 2)]) ∧ (VAt w' N M m t u ⟨#[]⟩ ∧ HAt w' N) ∧ Below w.heap.size w w' ∧ w.heap.size < w'.heap.size := by
  have h0' : decide (0 ≤ g) = true := decide_eq_true h0
  go_enter Tryd.func94, Tryd.ntmps94
  go_wp2_with fail
  go_region_held3 (fun w' => w'.cell? ⟨w.heap.size, 0, none⟩ = some (.int .i64 op) ∧ w'.cell? ⟨w.heap.size, 1, none⟩ = some (.int .i64 g) ∧ w'.cell? ⟨w.heap.size, 2, none⟩ = some (.int .u64 M) ∧ w'.cell? ⟨w.heap.size, 3, none⟩ = some (.int .u64 m) ∧ w'.cell? ⟨w.heap.size, 4, none⟩ = some (.int .u64 t) ∧ w'.cell? ⟨w.heap.size, 5, none⟩ = some (.string u)) (first | (refine ⟨?_, ?_, ?_, ?_, ?_, ?_⟩ <;> go_simp; done) | go_keep)
   (first | (go_at_call 145; (with_reducible refine (operator_any op _).mono ?_); rintro e w1 ⟨rfl, rfl⟩) | (go_at_call 130; (with_reducible refine (ZZVersion_any M m t u ⟨#[]⟩ _).mono ?_); rintro e w1 ⟨rfl, rfl⟩))
  all_goals
    go_wp2
    refine bodyPost_ret (v := .agg #[.string (opText op), .pointer (some ⟨w.heap.size + 1 + 1, 0, none⟩), .bool (decide (g < 3)), .bool (g == 1), .bool (g == 2)]) (by simp [results, Tryd.results94, go_sem, h0]) rfl ?_
    refine ⟨w.heap.size + 1 + 1, rfl, ⟨⟨by simp, ?_⟩, _, _, heap_last3 _ _ _ _⟩, ((((Below.refl _ _).alloc (Nat.le_refl _) _).alloc (by simp) _).alloc (by simp; omega) _).drew, by simp; omega⟩
    go_simp
def equalB (c M1 m1 M2 m2 t2 : Int) (d md pd : Bool) : Bool := if d then tildeB c M1 m1 M2 m2 t2 md pd else decide (c = 0)
set_option maxHeartbeats 2000000 in
set_option maxRecDepth 100000 in
theorem cEqual_any (M1 m1 t1 : Int) (u1 v1 : ByteArray) (M2 m2 t2 : Int) (u2 v2 : ByteArray) (s : ByteArray) (d md pd : Bool) (a p q : Nat) (w : World) (hG0 : Gl w) (s1 : u1.size < 8796093022208) (s2 : u2.size < 8796093022208) (hV : VAt w a M1 m1 t1 u1 v1) (hC : VAt w p M2 m2 t2 u2 v2) (hK : KAt w q p s d md pd) (pre : Bool) (hne : a ≠ p) (hA : HAt w a) (hP : HAt w p) :
    Calls Tryd.prog 151 #[.pointer (some ⟨a, 0, none⟩), .pointer (some ⟨q, 0, none⟩), .bool pre] w fun e w' => (∃ ev, e = .returned (.tuple #[.bool (openB pre u1 && equalB (cmpVer M1 m1 t1 u1 M2 m2 t2 u2) M1 m1 M2 m2 t2 d md pd), ev])) ∧ Below w.heap.size w w' := by
  have ha := hV.lt
  have hp := hC.lt
  have hq := hK.lt
  have hS0 := startK hV hC hK
  have Q : ∀ cur : World, (cur.cell? ⟨a, 0, none⟩ = some (.int .u64 M1) ∧ cur.cell? ⟨a, 1, none⟩ = some (.int .u64 m1) ∧ cur.cell? ⟨a, 2, none⟩ = some (.int .u64 t1) ∧ cur.cell? ⟨a, 3, none⟩ = some (.string u1) ∧ cur.cell? ⟨a, 4, none⟩ = some (.string v1) ∧ cur.cell? ⟨a, 5, none⟩ = some (.string ⟨#[]⟩) ∧ cur.cell? ⟨p, 0, none⟩ = some (.int .u64 M2) ∧ cur.cell? ⟨p, 1, none⟩ = some (.int .u64 m2) ∧ cur.cell? ⟨p, 2, none⟩ = some (.int .u64 t2) ∧ cur.cell? ⟨p, 3, none⟩ = some (.string u2) ∧ cur.cell? ⟨p, 4, none⟩ = some (.string v2) ∧ cur.cell? ⟨p, 5, none⟩ = some (.string ⟨#[]⟩) ∧ cur.cell? ⟨q, 0, none⟩ = some (.pointer (some ⟨p, 0, none⟩)) ∧ cur.cell? ⟨q, 1, none⟩ = some (.string ⟨#[]⟩) ∧ cur.cell? ⟨q, 2, none⟩ = some (.string s) ∧ cur.cell? ⟨q, 3, none⟩ = some (.bool md) ∧ cur.cell? ⟨q, 4, none⟩ = some (.bool d) ∧ cur.cell? ⟨q, 5, none⟩ = some (.bool pd) ∧ Below w.heap.size w cur) → Calls Tryd.prog 86 #[.pointer (some ⟨a, 0, none⟩), .pointer (some ⟨p, 0, none⟩)] cur fun e w' => e = .returned (.bool (decide (cmpVer M1 m1 t1 u1 M2 m2 t2 u2 = 0))) ∧ Below cur.heap.size cur w' :=
    fun cur h => Equal_at M1 m1 t1 u1 v1 M2 m2 t2 u2 v2 a p cur hne (hA.below (lastB h)) (hP.below (lastB h)) (VofS ha h) (CofS hp h) (GofS hG0 h) s1 s2
  have Tl : ∀ cur : World, (cur.cell? ⟨a, 0, none⟩ = some (.int .u64 M1) ∧ cur.cell? ⟨a, 1, none⟩ = some (.int .u64 m1) ∧ cur.cell? ⟨a, 2, none⟩ = some (.int .u64 t1) ∧ cur.cell? ⟨a, 3, none⟩ = some (.string u1) ∧ cur.cell? ⟨a, 4, none⟩ = some (.string v1) ∧ cur.cell? ⟨a, 5, none⟩ = some (.string ⟨#[]⟩) ∧ cur.cell? ⟨p, 0, none⟩ = some (.int .u64 M2) ∧ cur.cell? ⟨p, 1, none⟩ = some (.int .u64 m2) ∧ cur.cell? ⟨p, 2, none⟩ = some (.int .u64 t2) ∧ cur.cell? ⟨p, 3, none⟩ = some (.string u2) ∧ cur.cell? ⟨p, 4, none⟩ = some (.string v2) ∧ cur.cell? ⟨p, 5, none⟩ = some (.string ⟨#[]⟩) ∧ cur.cell? ⟨q, 0, none⟩ = some (.pointer (some ⟨p, 0, none⟩)) ∧ cur.cell? ⟨q, 1, none⟩ = some (.string ⟨#[]⟩) ∧ cur.cell? ⟨q, 2, none⟩ = some (.string s) ∧ cur.cell? ⟨q, 3, none⟩ = some (.bool md) ∧ cur.cell? ⟨q, 4, none⟩ = some (.bool d) ∧ cur.cell? ⟨q, 5, none⟩ = some (.bool pd) ∧ Below w.heap.size w cur) → Calls Tryd.prog 152 #[.pointer (some ⟨a, 0, none⟩), .pointer (some ⟨q, 0, none⟩), .bool pre] cur fun e w' => (∃ ev, e = .returned (.tuple #[.bool (openB pre u1 && tildeB (cmpVer M1 m1 t1 u1 M2 m2 t2 u2) M1 m1 M2 m2 t2 md pd), ev])) ∧ Below cur.heap.size cur w' :=
    fun cur h => cTilde_any M1 m1 t1 u1 v1 M2 m2 t2 u2 v2 s d md pd a p q cur (GofS hG0 h) s1 s2 (VofS ha h) (CofS hp h) (KofS hq h) pre
  clear hA hP
  generalize cmpVer M1 m1 t1 u1 M2 m2 t2 u2 = c at Q Tl ⊢
  generalize htl : tildeB c M1 m1 M2 m2 t2 md pd = tl at Tl
  generalize hec : decide (c = 0) = ec at Q
  cases hu : u1.toList.isEmpty <;> cases pre <;> cases d <;> cases tl <;> cases ec
  all_goals
    go_enter Tryd.func151, Tryd.ntmps151
    go_wp2_with (first | (go_at_call 132; (with_reducible refine (Major_any M1 m1 t1 u1 v1 ⟨#[]⟩ _).mono ?_); rintro e wn ⟨rfl, hb⟩; have hS := keepK ha hp hq (by assumption) hb) | (go_at_call 132; (with_reducible refine (Major_any M2 m2 t2 u2 v2 ⟨#[]⟩ _).mono ?_); rintro e wn ⟨rfl, hb⟩; have hS := keepK ha hp hq (by assumption) hb) | (go_at_call 133; (with_reducible refine (Minor_any M1 m1 t1 u1 v1 ⟨#[]⟩ _).mono ?_); rintro e wn ⟨rfl, hb⟩; have hS := keepK ha hp hq (by assumption) hb) | (go_at_call 133; (with_reducible refine (Minor_any M2 m2 t2 u2 v2 ⟨#[]⟩ _).mono ?_); rintro e wn ⟨rfl, hb⟩; have hS := keepK ha hp hq (by assumption) hb) | (go_at_call 134; (with_reducible refine (Patch_any M1 m1 t1 u1 v1 ⟨#[]⟩ _).mono ?_); rintro e wn ⟨rfl, hb⟩; have hS := keepK ha hp hq (by assumption) hb) | (go_at_call 134; (with_reducible refine (Patch_any M2 m2 t2 u2 v2 ⟨#[]⟩ _).mono ?_); rintro e wn ⟨rfl, hb⟩; have hS := keepK ha hp hq (by assumption) hb) | (go_at_call 135; (with_reducible refine (Prerelease_any M1 m1 t1 u1 v1 ⟨#[]⟩ _).mono ?_); rintro e wn ⟨rfl, hb⟩; have hS := keepK ha hp hq (by assumption) hb) | (go_at_call 135; (with_reducible refine (Prerelease_any M2 m2 t2 u2 v2 ⟨#[]⟩ _).mono ?_); rintro e wn ⟨rfl, hb⟩; have hS := keepK ha hp hq (by assumption) hb) | (go_at_call 86; (with_reducible refine (Q _ ?_).mono ?_); assumption; rintro e wn ⟨rfl, hb⟩; have hS := keepK ha hp hq (by assumption) hb) | (go_at_call 152; (with_reducible refine (Tl _ ?_).mono ?_); assumption; rintro e wn ⟨⟨ev, rfl⟩, hb⟩; have hS := keepK ha hp hq (by assumption) hb) | (go_at_call 170; (with_reducible refine (errNew_any _ _).mono ?_); rintro e wn ⟨⟨tp9, p9, rfl⟩, hb⟩; have hS := keepK ha hp hq (by assumption) hb))
    all_goals (go_ret2; exact ⟨⟨_, congrArg (fun b => Ending.returned (.tuple #[.bool b, _])) (by first | rfl | (simp [openB, equalB, htl, hec, hu]; done) | (simp_all [openB, equalB]; done))⟩, lastB (by assumption)⟩)
set_option maxHeartbeats 1000000 in
theorem ZZTilde_any (M1 m1 t1 : Int) (u1 v1 : ByteArray) (M2 m2 t2 : Int) (u2 v2 : ByteArray) (s : ByteArray) (d md pd : Bool) (a p : Nat) (w : World) (hG0 : Gl w) (s1 : u1.size < 8796093022208) (s2 : u2.size < 8796093022208) (hV : VAt w a M1 m1 t1 u1 v1) (hC : VAt w p M2 m2 t2 u2 v2) (pre : Bool) :
    Calls Tryd.prog 106 #[.agg #[.string s, .pointer (some ⟨p, 0, none⟩), .bool d, .bool md, .bool pd], .pointer (some ⟨a, 0, none⟩), .bool pre] w fun e w' => (∃ ev, e = .returned (.tuple #[.bool (openB pre u1 && tildeB (cmpVer M1 m1 t1 u1 M2 m2 t2 u2) M1 m1 M2 m2 t2 md pd), ev])) ∧ Below w.heap.size w w' := by
  go_enter Tryd.func106, Tryd.ntmps106
  go_wp2_with (first | (go_at_call 144; (with_reducible refine (inner_any s p d md pd _).mono ?_); rintro e w1 ⟨N, rfl, hK1, hb1, hz1⟩; have hB1 := below1 hb1) | (go_at_call 152; (with_reducible refine (cTilde_any M1 m1 t1 u1 v1 M2 m2 t2 u2 v2 s d md pd a p N _ (hG0.below hB1) s1 s2 (hV.below hB1) (hC.below hB1) hK1 pre).mono ?_); rintro e w2 ⟨⟨ev, rfl⟩, hb2⟩; have hB2 := b2 hB1 hb2))
  go_ret2
  exact ⟨⟨_, rfl⟩, hB2⟩
set_option maxHeartbeats 1000000 in
theorem ZZEqual_any (M1 m1 t1 : Int) (u1 v1 : ByteArray) (M2 m2 t2 : Int) (u2 v2 : ByteArray) (s : ByteArray) (d md pd : Bool) (a p : Nat) (w : World) (hG0 : Gl w) (s1 : u1.size < 8796093022208) (s2 : u2.size < 8796093022208) (hV : VAt w a M1 m1 t1 u1 v1) (hC : VAt w p M2 m2 t2 u2 v2) (pre : Bool) (hne : a ≠ p) (hA : HAt w a) (hP : HAt w p) :
    Calls Tryd.prog 105 #[.agg #[.string s, .pointer (some ⟨p, 0, none⟩), .bool d, .bool md, .bool pd], .pointer (some ⟨a, 0, none⟩), .bool pre] w fun e w' => (∃ ev, e = .returned (.tuple #[.bool (openB pre u1 && equalB (cmpVer M1 m1 t1 u1 M2 m2 t2 u2) M1 m1 M2 m2 t2 d md pd), ev])) ∧ Below w.heap.size w w' := by
  go_enter Tryd.func105, Tryd.ntmps105
  go_wp2_with (first | (go_at_call 144; (with_reducible refine (inner_any s p d md pd _).mono ?_); rintro e w1 ⟨N, rfl, hK1, hb1, hz1⟩; have hB1 := below1 hb1) | (go_at_call 151; (with_reducible refine (cEqual_any M1 m1 t1 u1 v1 M2 m2 t2 u2 v2 s d md pd a p N _ (hG0.below hB1) s1 s2 (hV.below hB1) (hC.below hB1) hK1 pre hne (hA.below hB1) (hP.below hB1)).mono ?_); rintro e w2 ⟨⟨ev, rfl⟩, hb2⟩; have hB2 := b2 hB1 hb2))
  go_ret2
  exact ⟨⟨_, rfl⟩, hB2⟩
set_option maxHeartbeats 2000000 in
theorem TildeHolds_any (op g M2 m2 t2 : Int) (u2 : ByteArray) (h0 : 0 ≤ g) (M1 m1 t1 : Int) (u1 v1 : ByteArray) (pre : Bool) (w : World) (hG0 : Gl w) (s1 : u1.size < 8796093022208) (s2 : u2.size < 8796093022208) :
    Calls Tryd.prog 54 #[.agg #[.int .i64 op, .int .i64 g, .int .u64 M2, .int .u64 m2, .int .u64 t2, .string u2], .agg #[.int .u64 M1, .int .u64 m1, .int .u64 t1, .string u1, .string v1], .bool pre] w fun e w' => e = .returned (.bool (openB pre u1 && tildeB (cmpVer M1 m1 t1 u1 M2 m2 t2 u2) M1 m1 M2 m2 t2 (g == 1) (g == 2))) ∧ Below w.heap.size w w' := by
  go_enter Tryd.func54, Tryd.ntmps54
  go_wp2_with fail
  go_region_with (first | (go_at_call 94; (with_reducible refine (term_any op g M2 m2 t2 u2 h0 _).mono ?_); rintro e w1 ⟨N1, rfl, hC1, hb1, hz1⟩; obtain ⟨hc1, hf1⟩ := bcell hb1; have hB1 := below2 hb1) | (go_at_call 83; (with_reducible refine (version_any M1 m1 t1 u1 v1 _).mono ?_); rintro e w2 ⟨N2, rfl, hV2, hb2, hz2⟩; obtain ⟨hc2, hf2⟩ := bcell hb2; have hB2 := b2 hB1 hb2) | (go_at_call 106; (with_reducible refine (ZZTilde_any M1 m1 t1 u1 v1 M2 m2 t2 u2 ⟨#[]⟩ (opText op) (decide (g < 3)) (g == 1) (g == 2) N2 N1 _ (hG0.below hB2) s1 s2 hV2 (hC1.below hb2) pre).mono ?_); rintro e w3 ⟨⟨ev, rfl⟩, hb3⟩; have hB3 := b2 hB2 hb3))
  all_goals
    go_wp2
    go_ret
    exact ⟨rfl, hB3⟩
def TildeHolds.f (op g M2 m2 t2 : Int) (u2 : ByteArray) (M1 m1 t1 : Int) (u1 v1 : ByteArray) (pre : Bool) : Option Bool := if 0 ≤ g ∧ u1.size < 8796093022208 ∧ u2.size < 8796093022208 then some (openB pre u1 && tildeB (cmpVer M1 m1 t1 u1 M2 m2 t2 u2) M1 m1 M2 m2 t2 (g == 1) (g == 2)) else none
theorem TildeHolds.calls (a0_0 a0_1 a0_2 a0_3 a0_4 : Int) (a0_5 : ByteArray) (a1_0 a1_1 a1_2 : Int) (a1_3 a1_4 : ByteArray) (a2 : Bool) (r : Bool) (w : World) (hG0 : Gl w) (h : TildeHolds.f a0_0 a0_1 a0_2 a0_3 a0_4 a0_5 a1_0 a1_1 a1_2 a1_3 a1_4 a2 = some r) :
    Calls Tryd.prog 54 #[.agg #[.int .i64 a0_0, .int .i64 a0_1, .int .u64 a0_2, .int .u64 a0_3, .int .u64 a0_4, .string a0_5], .agg #[.int .u64 a1_0, .int .u64 a1_1, .int .u64 a1_2, .string a1_3, .string a1_4], .bool a2] w fun e w' => e = .returned (.bool r) ∧ Below w.heap.size w w' := by
  unfold TildeHolds.f at h
  by_cases hs : 0 ≤ a0_1 ∧ a1_3.size < 8796093022208 ∧ a0_5.size < 8796093022208
  · rw [if_pos hs] at h
    injection h with h
    subst h
    exact TildeHolds_any a0_0 a0_1 a0_2 a0_3 a0_4 a0_5 hs.1 a1_0 a1_1 a1_2 a1_3 a1_4 a2 w hG0 hs.2.1 hs.2.2
  · rw [if_neg hs] at h; cases h
set_option maxHeartbeats 2000000 in
theorem EqualHolds_any (op g M2 m2 t2 : Int) (u2 : ByteArray) (h0 : 0 ≤ g) (M1 m1 t1 : Int) (u1 v1 : ByteArray) (pre : Bool) (w : World) (hG0 : Gl w) (s1 : u1.size < 8796093022208) (s2 : u2.size < 8796093022208) :
    Calls Tryd.prog 53 #[.agg #[.int .i64 op, .int .i64 g, .int .u64 M2, .int .u64 m2, .int .u64 t2, .string u2], .agg #[.int .u64 M1, .int .u64 m1, .int .u64 t1, .string u1, .string v1], .bool pre] w fun e w' => e = .returned (.bool (openB pre u1 && equalB (cmpVer M1 m1 t1 u1 M2 m2 t2 u2) M1 m1 M2 m2 t2 (decide (g < 3)) (g == 1) (g == 2))) ∧ Below w.heap.size w w' := by
  go_enter Tryd.func53, Tryd.ntmps53
  go_wp2_with fail
  go_region_with (first | (go_at_call 94; (with_reducible refine (term_at op g M2 m2 t2 u2 h0 _).mono ?_); rintro e w1 ⟨N1, rfl, ⟨hC1, hA1⟩, hb1, hz1⟩; obtain ⟨hc1, hf1⟩ := bcell hb1; have hB1 := below2 hb1) | (go_at_call 83; (with_reducible refine (version_at M1 m1 t1 u1 v1 _).mono ?_); rintro e w2 ⟨N2, rfl, ⟨hV2, hA2⟩, hb2, hN2⟩; obtain ⟨hc2, hf2⟩ := bcell hb2; have hB2 := b2 hB1 hb2) | (go_at_call 105; (with_reducible refine (ZZEqual_any M1 m1 t1 u1 v1 M2 m2 t2 u2 ⟨#[]⟩ (opText op) (decide (g < 3)) (g == 1) (g == 2) N2 N1 _ (hG0.below hB2) s1 s2 hV2 (hC1.below hb2) pre (neq_of hC1 hN2).symm hA2 (hA1.below hb2)).mono ?_); rintro e w3 ⟨⟨ev, rfl⟩, hb3⟩; have hB3 := b2 hB2 hb3))
  all_goals
    go_wp2
    go_ret
    exact ⟨rfl, hB3⟩
def EqualHolds.f (op g M2 m2 t2 : Int) (u2 : ByteArray) (M1 m1 t1 : Int) (u1 v1 : ByteArray) (pre : Bool) : Option Bool := if 0 ≤ g ∧ u1.size < 8796093022208 ∧ u2.size < 8796093022208 then some (openB pre u1 && equalB (cmpVer M1 m1 t1 u1 M2 m2 t2 u2) M1 m1 M2 m2 t2 (decide (g < 3)) (g == 1) (g == 2)) else none
theorem EqualHolds.calls (a0_0 a0_1 a0_2 a0_3 a0_4 : Int) (a0_5 : ByteArray) (a1_0 a1_1 a1_2 : Int) (a1_3 a1_4 : ByteArray) (a2 : Bool) (r : Bool) (w : World) (hG0 : Gl w) (h : EqualHolds.f a0_0 a0_1 a0_2 a0_3 a0_4 a0_5 a1_0 a1_1 a1_2 a1_3 a1_4 a2 = some r) :
    Calls Tryd.prog 53 #[.agg #[.int .i64 a0_0, .int .i64 a0_1, .int .u64 a0_2, .int .u64 a0_3, .int .u64 a0_4, .string a0_5], .agg #[.int .u64 a1_0, .int .u64 a1_1, .int .u64 a1_2, .string a1_3, .string a1_4], .bool a2] w fun e w' => e = .returned (.bool r) ∧ Below w.heap.size w w' := by
  unfold EqualHolds.f at h
  by_cases hs : 0 ≤ a0_1 ∧ a1_3.size < 8796093022208 ∧ a0_5.size < 8796093022208
  · rw [if_pos hs] at h
    injection h with h
    subst h
    exact EqualHolds_any a0_0 a0_1 a0_2 a0_3 a0_4 a0_5 hs.1 a1_0 a1_1 a1_2 a1_3 a1_4 a2 w hG0 hs.2.1 hs.2.2
  · rw [if_neg hs] at h; cases h
end Go.Proofs.YtalpehfjjidfhaaDoor.Hand
