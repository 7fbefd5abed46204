/- What is proved: by hand, terms with < and <=, as the thin package has them. -/
import Derived.Test.YtalpehfjjidfhaaDoorHandW
namespace Go.Proofs.YtalpehfjjidfhaaDoor.Hand
set_option linter.unusedVariables false
set_option linter.unusedSimpArgs false
open Go.RowKit Go.Proofs.YtalpehfjjidfhaaDoorW.PrintWords Sv
set_option maxHeartbeats 2000000 in
set_option maxRecDepth 100000 in
theorem check_3 (M1 m1 t1 : Int) (u1 v1 : ByteArray) (M2 m2 t2 : Int) (u2 v2 : ByteArray) (d md pd : Bool) (a p q : Nat) (w : World) (hG0 : Gl w) (s1 : u1.size < 8796093022208) (s2 : u2.size < 8796093022208) (hV : VAt w a M1 m1 t1 u1 v1) (hC : VAt w p M2 m2 t2 u2 v2) (hK : KAt w q p (⟨#[60]⟩ : ByteArray) d md pd) (pre : Bool) :
    Calls Tryd.prog 156 #[.pointer (some ⟨q, 0, none⟩), .pointer (some ⟨a, 0, none⟩), .bool pre] w fun e w' => (∃ ev, e = .returned (.tuple #[.bool (openB pre u1 && decide (cmpVer M1 m1 t1 u1 M2 m2 t2 u2 < 0)), ev])) ∧ Below w.heap.size w w' := by
  have X := cLT_any M1 m1 t1 u1 v1 M2 m2 t2 u2 v2 ⟨#[60]⟩ d md pd a p q w hG0 s1 s2 hV hC hK pre
  generalize (openB pre u1 && decide (cmpVer M1 m1 t1 u1 M2 m2 t2 u2 < 0)) = rr at X ⊢
  obtain ⟨hq, k0, k1, k2, k3, k4, k5⟩ := id hK
  clear hV hC
  go_enter Tryd.func156, Tryd.ntmps156
  go_wp2_with (first | (go_at_call 174; (with_reducible refine X.mono ?_); rintro e w1 ⟨⟨ev, rfl⟩, hb1⟩))
  go_ret2
  exact ⟨⟨_, rfl⟩, hb1⟩
set_option maxHeartbeats 1000000 in
theorem ZZCheck_3 (M1 m1 t1 : Int) (u1 v1 : ByteArray) (M2 m2 t2 : Int) (u2 v2 : ByteArray) (d md pd : Bool) (a p : Nat) (w : World) (hG0 : Gl w) (s1 : u1.size < 8796093022208) (s2 : u2.size < 8796093022208) (hV : VAt w a M1 m1 t1 u1 v1) (hC : VAt w p M2 m2 t2 u2 v2) (pre : Bool) :
    Calls Tryd.prog 113 #[.agg #[.string ⟨#[60]⟩, .pointer (some ⟨p, 0, none⟩), .bool d, .bool md, .bool pd], .pointer (some ⟨a, 0, none⟩), .bool pre] w fun e w' => (∃ ev, e = .returned (.tuple #[.bool (openB pre u1 && decide (cmpVer M1 m1 t1 u1 M2 m2 t2 u2 < 0)), ev])) ∧ Below w.heap.size w w' := by
  go_enter Tryd.func113, Tryd.ntmps113
  go_wp2_with (first | (go_at_call 144; (with_reducible refine (inner_any ⟨#[60]⟩ p d md pd _).mono ?_); rintro e w1 ⟨N, rfl, hK1, hb1, hz1⟩; have hB1 := below1 hb1) | (go_at_call 156; (with_reducible refine (check_3 M1 m1 t1 u1 v1 M2 m2 t2 u2 v2 d md pd a p N _ (hG0.below hB1) s1 s2 (hV.below hB1) (hC.below hB1) hK1 pre).mono ?_); rintro e w2 ⟨⟨ev, rfl⟩, hb2⟩; have hB2 := b2 hB1 hb2))
  go_ret2
  exact ⟨⟨_, rfl⟩, hB2⟩
set_option maxHeartbeats 2000000 in
theorem TermHolds3_any (g M2 m2 t2 : Int) (u2 : ByteArray) (h0 : 0 ≤ g) (M1 m1 t1 : Int) (u1 v1 : ByteArray) (pre : Bool) (w : World) (hG0 : Gl w) (s1 : u1.size < 8796093022208) (s2 : u2.size < 8796093022208) :
    Calls Tryd.prog 65 #[.agg #[.int .i64 3, .int .i64 g, .int .u64 M2, .int .u64 m2, .int .u64 t2, .string u2], .agg #[.int .u64 M1, .int .u64 m1, .int .u64 t1, .string u1, .string v1], .bool pre] w fun e w' => e = .returned (.bool (openB pre u1 && decide (cmpVer M1 m1 t1 u1 M2 m2 t2 u2 < 0))) ∧ Below w.heap.size w w' := by
  have T94 := fun w => term_any 3 g M2 m2 t2 u2 h0 w
  rw [show opText 3 = ⟨#[60]⟩ from rfl] at T94
  go_enter Tryd.func65, Tryd.ntmps65
  go_wp2_with fail
  go_region_with (first | (go_at_call 94; (with_reducible refine (T94 _).mono ?_); rintro e w1 ⟨N1, rfl, hC1, hb1, hz1⟩; obtain ⟨hc1, hf1⟩ := bcell hb1; have hB1 := below2 hb1) | (go_at_call 83; (with_reducible refine (version_any M1 m1 t1 u1 v1 _).mono ?_); rintro e w2 ⟨N2, rfl, hV2, hb2, hz2⟩; obtain ⟨hc2, hf2⟩ := bcell hb2; have hB2 := b2 hB1 hb2) | (go_at_call 113; (with_reducible refine (ZZCheck_3 M1 m1 t1 u1 v1 M2 m2 t2 u2 ⟨#[]⟩ (decide (g < 3)) (g == 1) (g == 2) N2 N1 _ (hG0.below hB2) s1 s2 hV2 (hC1.below hb2) pre).mono ?_); rintro e w3 ⟨⟨ev, rfl⟩, hb3⟩; have hB3 := b2 hB2 hb3))
  all_goals
    go_wp2
    go_ret
    exact ⟨rfl, hB3⟩
set_option maxHeartbeats 2000000 in
set_option maxRecDepth 100000 in
theorem check_5 (M1 m1 t1 : Int) (u1 v1 : ByteArray) (M2 m2 t2 : Int) (u2 v2 : ByteArray) (d md pd : Bool) (a p q : Nat) (w : World) (hG0 : Gl w) (s1 : u1.size < 8796093022208) (s2 : u2.size < 8796093022208) (hV : VAt w a M1 m1 t1 u1 v1) (hC : VAt w p M2 m2 t2 u2 v2) (hK : KAt w q p (⟨#[60, 61]⟩ : ByteArray) d md pd) (pre : Bool) :
    Calls Tryd.prog 156 #[.pointer (some ⟨q, 0, none⟩), .pointer (some ⟨a, 0, none⟩), .bool pre] w fun e w' => (∃ ev, e = .returned (.tuple #[.bool (openB pre u1 && mostB (cmpVer M1 m1 t1 u1 M2 m2 t2 u2) M1 m1 M2 m2 d md), ev])) ∧ Below w.heap.size w w' := by
  have X := cLE_any M1 m1 t1 u1 v1 M2 m2 t2 u2 v2 ⟨#[60, 61]⟩ d md pd a p q w hG0 s1 s2 hV hC hK pre
  generalize (openB pre u1 && mostB (cmpVer M1 m1 t1 u1 M2 m2 t2 u2) M1 m1 M2 m2 d md) = rr at X ⊢
  obtain ⟨hq, k0, k1, k2, k3, k4, k5⟩ := id hK
  clear hV hC
  go_enter Tryd.func156, Tryd.ntmps156
  go_wp2_with (first | (go_at_call 175; (with_reducible refine X.mono ?_); rintro e w1 ⟨⟨ev, rfl⟩, hb1⟩))
  go_ret2
  exact ⟨⟨_, rfl⟩, hb1⟩
set_option maxHeartbeats 1000000 in
theorem ZZCheck_5 (M1 m1 t1 : Int) (u1 v1 : ByteArray) (M2 m2 t2 : Int) (u2 v2 : ByteArray) (d md pd : Bool) (a p : Nat) (w : World) (hG0 : Gl w) (s1 : u1.size < 8796093022208) (s2 : u2.size < 8796093022208) (hV : VAt w a M1 m1 t1 u1 v1) (hC : VAt w p M2 m2 t2 u2 v2) (pre : Bool) :
    Calls Tryd.prog 113 #[.agg #[.string ⟨#[60, 61]⟩, .pointer (some ⟨p, 0, none⟩), .bool d, .bool md, .bool pd], .pointer (some ⟨a, 0, none⟩), .bool pre] w fun e w' => (∃ ev, e = .returned (.tuple #[.bool (openB pre u1 && mostB (cmpVer M1 m1 t1 u1 M2 m2 t2 u2) M1 m1 M2 m2 d md), ev])) ∧ Below w.heap.size w w' := by
  go_enter Tryd.func113, Tryd.ntmps113
  go_wp2_with (first | (go_at_call 144; (with_reducible refine (inner_any ⟨#[60, 61]⟩ p d md pd _).mono ?_); rintro e w1 ⟨N, rfl, hK1, hb1, hz1⟩; have hB1 := below1 hb1) | (go_at_call 156; (with_reducible refine (check_5 M1 m1 t1 u1 v1 M2 m2 t2 u2 v2 d md pd a p N _ (hG0.below hB1) s1 s2 (hV.below hB1) (hC.below hB1) hK1 pre).mono ?_); rintro e w2 ⟨⟨ev, rfl⟩, hb2⟩; have hB2 := b2 hB1 hb2))
  go_ret2
  exact ⟨⟨_, rfl⟩, hB2⟩
set_option maxHeartbeats 2000000 in
theorem TermHolds5_any (g M2 m2 t2 : Int) (u2 : ByteArray) (h0 : 0 ≤ g) (M1 m1 t1 : Int) (u1 v1 : ByteArray) (pre : Bool) (w : World) (hG0 : Gl w) (s1 : u1.size < 8796093022208) (s2 : u2.size < 8796093022208) :
    Calls Tryd.prog 65 #[.agg #[.int .i64 5, .int .i64 g, .int .u64 M2, .int .u64 m2, .int .u64 t2, .string u2], .agg #[.int .u64 M1, .int .u64 m1, .int .u64 t1, .string u1, .string v1], .bool pre] w fun e w' => e = .returned (.bool (openB pre u1 && mostB (cmpVer M1 m1 t1 u1 M2 m2 t2 u2) M1 m1 M2 m2 (decide (g < 3)) (g == 1))) ∧ Below w.heap.size w w' := by
  have T94 := fun w => term_any 5 g M2 m2 t2 u2 h0 w
  rw [show opText 5 = ⟨#[60, 61]⟩ from rfl] at T94
  go_enter Tryd.func65, Tryd.ntmps65
  go_wp2_with fail
  go_region_with (first | (go_at_call 94; (with_reducible refine (T94 _).mono ?_); rintro e w1 ⟨N1, rfl, hC1, hb1, hz1⟩; obtain ⟨hc1, hf1⟩ := bcell hb1; have hB1 := below2 hb1) | (go_at_call 83; (with_reducible refine (version_any M1 m1 t1 u1 v1 _).mono ?_); rintro e w2 ⟨N2, rfl, hV2, hb2, hz2⟩; obtain ⟨hc2, hf2⟩ := bcell hb2; have hB2 := b2 hB1 hb2) | (go_at_call 113; (with_reducible refine (ZZCheck_5 M1 m1 t1 u1 v1 M2 m2 t2 u2 ⟨#[]⟩ (decide (g < 3)) (g == 1) (g == 2) N2 N1 _ (hG0.below hB2) s1 s2 hV2 (hC1.below hb2) pre).mono ?_); rintro e w3 ⟨⟨ev, rfl⟩, hb3⟩; have hB3 := b2 hB2 hb3))
  all_goals
    go_wp2
    go_ret
    exact ⟨rfl, hB3⟩
def TermDown.f (a0_0 a0_1 a0_2 a0_3 a0_4 : Int) (a0_5 : ByteArray) (a1_0 a1_1 a1_2 : Int) (a1_3 a1_4 : ByteArray) (a2 : Bool) : Option Bool :=
  if 0 ≤ a0_1 ∧ a1_3.size < 8796093022208 ∧ a0_5.size < 8796093022208 then
    if a0_0 = 3 then some (openB a2 a1_3 && decide (cmpVer a1_0 a1_1 a1_2 a1_3 a0_2 a0_3 a0_4 a0_5 < 0))
    else if a0_0 = 5 then some (openB a2 a1_3 && mostB (cmpVer a1_0 a1_1 a1_2 a1_3 a0_2 a0_3 a0_4 a0_5) a1_0 a1_1 a0_2 a0_3 (decide (a0_1 < 3)) (a0_1 == 1))
    else none
  else none
theorem TermDown.calls (a0_0 a0_1 a0_2 a0_3 a0_4 : Int) (a0_5 : ByteArray) (a1_0 a1_1 a1_2 : Int) (a1_3 a1_4 : ByteArray) (a2 : Bool) (r : Bool) (w : World) (hG0 : Gl w) (h : TermDown.f a0_0 a0_1 a0_2 a0_3 a0_4 a0_5 a1_0 a1_1 a1_2 a1_3 a1_4 a2 = some r) :
    Calls Tryd.prog 65 #[.agg #[.int .i64 a0_0, .int .i64 a0_1, .int .u64 a0_2, .int .u64 a0_3, .int .u64 a0_4, .string a0_5], .agg #[.int .u64 a1_0, .int .u64 a1_1, .int .u64 a1_2, .string a1_3, .string a1_4], .bool a2] w fun e w' => e = .returned (.bool r) ∧ Below w.heap.size w w' := by
  unfold TermDown.f at h
  by_cases hs : 0 ≤ a0_1 ∧ a1_3.size < 8796093022208 ∧ a0_5.size < 8796093022208
  · rw [if_pos hs] at h
    by_cases h0 : a0_0 = 3
    · subst h0
      rw [if_pos rfl] at h
      injection h with h
      subst h
      exact TermHolds3_any a0_1 a0_2 a0_3 a0_4 a0_5 hs.1 a1_0 a1_1 a1_2 a1_3 a1_4 a2 w hG0 hs.2.1 hs.2.2
    · rw [if_neg h0] at h
      by_cases h6 : a0_0 = 5
      · subst h6
        rw [if_pos rfl] at h
        injection h with h
        subst h
        exact TermHolds5_any a0_1 a0_2 a0_3 a0_4 a0_5 hs.1 a1_0 a1_1 a1_2 a1_3 a1_4 a2 w hG0 hs.2.1 hs.2.2
      · rw [if_neg h6] at h; cases h
  · rw [if_neg hs] at h; cases h
end Go.Proofs.YtalpehfjjidfhaaDoor.Hand
