/- What is proved: by hand, the comparison ^ of constraints, as a plain function of its parts. -/
import Derived.Test.YtalpehfjjidfhaaDoorHandX
namespace Go.Proofs.YtalpehfjjidfhaaDoor.Hand
set_option linter.unusedVariables false
set_option linter.unusedSimpArgs false
open Go.RowKit Go.Proofs.YtalpehfjjidfhaaDoorW.PrintWords Sv
/-- What ^ says of a version that is let in. -/
def caretB (c M1 m1 t1 M2 m2 t2 : Int) (md pd : Bool) : Bool :=
 if decide (c < 0) then false else if decide (0 < M2) || md then M1 == M2
 else if (M2 == 0) && decide (0 < M1) then false else if decide (0 < m2) || pd then m1 == m2
 else if (m2 == 0) && decide (0 < m1) then false else t2 == t1
set_option maxHeartbeats 4000000 in
set_option maxRecDepth 100000 in
theorem cCaret_any (M1 m1 t1 : Int) (u1 v1 : ByteArray) (M2 m2 t2 : Int) (u2 v2 : ByteArray) (s : ByteArray) (d md pd : Bool) (a p q : Nat) (w : World) (hG0 : Gl w) (s1 : u1.size < 8796093022208) (s2 : u2.size < 8796093022208) (hV : VAt w a M1 m1 t1 u1 v1) (hC : VAt w p M2 m2 t2 u2 v2) (hK : KAt w q p s d md pd) (pre : Bool) :
  Calls Tryd.prog 176 #[.pointer (some ⟨a, 0, none⟩), .pointer (some ⟨q, 0, none⟩), .bool pre] w fun e w' => (∃ ev, e = .returned (.tuple #[.bool (openB pre u1 && caretB (cmpVer M1 m1 t1 u1 M2 m2 t2 u2) M1 m1 t1 M2 m2 t2 md pd), ev])) ∧ Below w.heap.size w w' := by
 have ha := hV.lt
 have hp := hC.lt
 have hq := hK.lt
 have hS0 := startK hV hC hK
 have L : ∀ cur : World, (cur.cell? ⟨a, 0, none⟩ = some (.int .u64 M1) ∧ cur.cell? ⟨a, 1, none⟩ = some (.int .u64 m1) ∧ cur.cell? ⟨a, 2, none⟩ = some (.int .u64 t1) ∧ cur.cell? ⟨a, 3, none⟩ = some (.string u1) ∧ cur.cell? ⟨a, 4, none⟩ = some (.string v1) ∧ cur.cell? ⟨a, 5, none⟩ = some (.string ⟨#[]⟩) ∧ cur.cell? ⟨p, 0, none⟩ = some (.int .u64 M2) ∧ cur.cell? ⟨p, 1, none⟩ = some (.int .u64 m2) ∧ cur.cell? ⟨p, 2, none⟩ = some (.int .u64 t2) ∧ cur.cell? ⟨p, 3, none⟩ = some (.string u2) ∧ cur.cell? ⟨p, 4, none⟩ = some (.string v2) ∧ cur.cell? ⟨p, 5, none⟩ = some (.string ⟨#[]⟩) ∧ cur.cell? ⟨q, 0, none⟩ = some (.pointer (some ⟨p, 0, none⟩)) ∧ cur.cell? ⟨q, 1, none⟩ = some (.string ⟨#[]⟩) ∧ cur.cell? ⟨q, 2, none⟩ = some (.string s) ∧ cur.cell? ⟨q, 3, none⟩ = some (.bool md) ∧ cur.cell? ⟨q, 4, none⟩ = some (.bool d) ∧ cur.cell? ⟨q, 5, none⟩ = some (.bool pd) ∧ Below w.heap.size w cur) → Calls Tryd.prog 85 #[.pointer (some ⟨a, 0, none⟩), .pointer (some ⟨p, 0, none⟩)] cur fun e w' => e = .returned (.bool (decide (cmpVer M1 m1 t1 u1 M2 m2 t2 u2 < 0))) ∧ Below cur.heap.size cur w' :=
  fun cur h => LessThan_at M1 m1 t1 u1 v1 M2 m2 t2 u2 v2 a p cur (VofS ha h) (CofS hp h) (GofS hG0 h) s1 s2
 generalize cmpVer M1 m1 t1 u1 M2 m2 t2 u2 = c at L ⊢
 go_enter Tryd.func176, Tryd.ntmps176
 go_upto_region 1 with fail
 go_cut [17] (fun vv wx => vv = .bool (!openB pre u1) ∧ Aside0 (wx.cell? ⟨a, 0, none⟩ = some (.int .u64 M1) ∧ wx.cell? ⟨a, 1, none⟩ = some (.int .u64 m1) ∧ wx.cell? ⟨a, 2, none⟩ = some (.int .u64 t1) ∧ wx.cell? ⟨a, 3, none⟩ = some (.string u1) ∧ wx.cell? ⟨a, 4, none⟩ = some (.string v1) ∧ wx.cell? ⟨a, 5, none⟩ = some (.string ⟨#[]⟩) ∧ wx.cell? ⟨p, 0, none⟩ = some (.int .u64 M2) ∧ wx.cell? ⟨p, 1, none⟩ = some (.int .u64 m2) ∧ wx.cell? ⟨p, 2, none⟩ = some (.int .u64 t2) ∧ wx.cell? ⟨p, 3, none⟩ = some (.string u2) ∧ wx.cell? ⟨p, 4, none⟩ = some (.string v2) ∧ wx.cell? ⟨p, 5, none⟩ = some (.string ⟨#[]⟩) ∧ wx.cell? ⟨q, 0, none⟩ = some (.pointer (some ⟨p, 0, none⟩)) ∧ wx.cell? ⟨q, 1, none⟩ = some (.string ⟨#[]⟩) ∧ wx.cell? ⟨q, 2, none⟩ = some (.string s) ∧ wx.cell? ⟨q, 3, none⟩ = some (.bool md) ∧ wx.cell? ⟨q, 4, none⟩ = some (.bool d) ∧ wx.cell? ⟨q, 5, none⟩ = some (.bool pd) ∧ Below w.heap.size w wx))
 case first =>
  cases hu : u1.toList.isEmpty <;> cases pre
  all_goals
   go_wp2_with (first | (go_at_call 132; (with_reducible refine (Major_any _ _ _ _ _ _ _).mono ?_); rintro e wn ⟨rfl, hb⟩; have hS := keepK ha hp hq (by assumption) hb) | (go_at_call 133; (with_reducible refine (Minor_any _ _ _ _ _ _ _).mono ?_); rintro e wn ⟨rfl, hb⟩; have hS := keepK ha hp hq (by assumption) hb) | (go_at_call 134; (with_reducible refine (Patch_any _ _ _ _ _ _ _).mono ?_); rintro e wn ⟨rfl, hb⟩; have hS := keepK ha hp hq (by assumption) hb) | (go_at_call 135; (with_reducible refine (Prerelease_any _ _ _ _ _ _ _).mono ?_); rintro e wn ⟨rfl, hb⟩; have hS := keepK ha hp hq (by assumption) hb))
   go_meet
   case rel => exact ⟨by first | rfl | (unfold openB; rw [hu]; rfl), Aside0.mk (by assumption)⟩
 case rest =>
 obtain ⟨rfl, hA1⟩ := hcut
 have hS1 := hA1.out
 clear hA1
 cases ho : openB pre u1
 ·
  rw [Bool.not_false] at *
  go_wp2_with (first | (go_at_call 170; (with_reducible refine (errNew_any _ _).mono ?_); rintro e wn ⟨⟨tp9, p9, rfl⟩, hb⟩; have hS := keepK ha hp hq (by assumption) hb))
  (go_ret2; exact ⟨⟨_, congrArg (fun b => Ending.returned (.tuple #[.bool b, _])) (by rw [ho]; rfl)⟩, lastB (by assumption)⟩)
 rw [Bool.not_true] at *
 cases hl : decide (c < 0)
 case true =>
  rw [hl] at L
  go_wp2_with (first | (go_at_call 85; (with_reducible refine (L _ ?_).mono ?_); assumption; rintro e wn ⟨rfl, hb⟩; have hS := keepK ha hp hq (by assumption) hb) | (go_at_call 170; (with_reducible refine (errNew_any _ _).mono ?_); rintro e wn ⟨⟨tp9, p9, rfl⟩, hb⟩; have hS := keepK ha hp hq (by assumption) hb))
  (go_ret2; exact ⟨⟨_, congrArg (fun b => Ending.returned (.tuple #[.bool b, _])) (by rw [ho, caretB, hl]; rfl)⟩, lastB (by assumption)⟩)
 rw [hl] at L
 go_upto_region 6 with (first | (go_at_call 85; (with_reducible refine (L _ ?_).mono ?_); assumption; rintro e wn ⟨rfl, hb⟩; have hS := keepK ha hp hq (by assumption) hb))
 go_cut [39] (fun vv wx => vv = .bool (decide (0 < M2) || md) ∧ Aside0 (wx.cell? ⟨a, 0, none⟩ = some (.int .u64 M1) ∧ wx.cell? ⟨a, 1, none⟩ = some (.int .u64 m1) ∧ wx.cell? ⟨a, 2, none⟩ = some (.int .u64 t1) ∧ wx.cell? ⟨a, 3, none⟩ = some (.string u1) ∧ wx.cell? ⟨a, 4, none⟩ = some (.string v1) ∧ wx.cell? ⟨a, 5, none⟩ = some (.string ⟨#[]⟩) ∧ wx.cell? ⟨p, 0, none⟩ = some (.int .u64 M2) ∧ wx.cell? ⟨p, 1, none⟩ = some (.int .u64 m2) ∧ wx.cell? ⟨p, 2, none⟩ = some (.int .u64 t2) ∧ wx.cell? ⟨p, 3, none⟩ = some (.string u2) ∧ wx.cell? ⟨p, 4, none⟩ = some (.string v2) ∧ wx.cell? ⟨p, 5, none⟩ = some (.string ⟨#[]⟩) ∧ wx.cell? ⟨q, 0, none⟩ = some (.pointer (some ⟨p, 0, none⟩)) ∧ wx.cell? ⟨q, 1, none⟩ = some (.string ⟨#[]⟩) ∧ wx.cell? ⟨q, 2, none⟩ = some (.string s) ∧ wx.cell? ⟨q, 3, none⟩ = some (.bool md) ∧ wx.cell? ⟨q, 4, none⟩ = some (.bool d) ∧ wx.cell? ⟨q, 5, none⟩ = some (.bool pd) ∧ Below w.heap.size w wx))
 case first =>
  cases h0 : decide (0 < M2) <;> cases md
  all_goals
   go_wp2_with (first | (go_at_call 132; (with_reducible refine (Major_any _ _ _ _ _ _ _).mono ?_); rintro e wn ⟨rfl, hb⟩; have hS := keepK ha hp hq (by assumption) hb) | (go_at_call 133; (with_reducible refine (Minor_any _ _ _ _ _ _ _).mono ?_); rintro e wn ⟨rfl, hb⟩; have hS := keepK ha hp hq (by assumption) hb) | (go_at_call 134; (with_reducible refine (Patch_any _ _ _ _ _ _ _).mono ?_); rintro e wn ⟨rfl, hb⟩; have hS := keepK ha hp hq (by assumption) hb) | (go_at_call 135; (with_reducible refine (Prerelease_any _ _ _ _ _ _ _).mono ?_); rintro e wn ⟨rfl, hb⟩; have hS := keepK ha hp hq (by assumption) hb))
   go_meet
   case rel => exact ⟨by first | rfl | (rw [h0]; rfl), Aside0.mk (by assumption)⟩
 case rest =>
 obtain ⟨rfl, hA2⟩ := hcut
 have hS2 := hA2.out
 clear hA2
 cases h1 : (decide (0 < M2) || md)
 case true =>
  go_upto_region 7 with fail
  go_cut [8] (fun vv wx => vv = .bool (M1 == M2) ∧ Aside0 (wx.cell? ⟨a, 0, none⟩ = some (.int .u64 M1) ∧ wx.cell? ⟨a, 1, none⟩ = some (.int .u64 m1) ∧ wx.cell? ⟨a, 2, none⟩ = some (.int .u64 t1) ∧ wx.cell? ⟨a, 3, none⟩ = some (.string u1) ∧ wx.cell? ⟨a, 4, none⟩ = some (.string v1) ∧ wx.cell? ⟨a, 5, none⟩ = some (.string ⟨#[]⟩) ∧ wx.cell? ⟨p, 0, none⟩ = some (.int .u64 M2) ∧ wx.cell? ⟨p, 1, none⟩ = some (.int .u64 m2) ∧ wx.cell? ⟨p, 2, none⟩ = some (.int .u64 t2) ∧ wx.cell? ⟨p, 3, none⟩ = some (.string u2) ∧ wx.cell? ⟨p, 4, none⟩ = some (.string v2) ∧ wx.cell? ⟨p, 5, none⟩ = some (.string ⟨#[]⟩) ∧ wx.cell? ⟨q, 0, none⟩ = some (.pointer (some ⟨p, 0, none⟩)) ∧ wx.cell? ⟨q, 1, none⟩ = some (.string ⟨#[]⟩) ∧ wx.cell? ⟨q, 2, none⟩ = some (.string s) ∧ wx.cell? ⟨q, 3, none⟩ = some (.bool md) ∧ wx.cell? ⟨q, 4, none⟩ = some (.bool d) ∧ wx.cell? ⟨q, 5, none⟩ = some (.bool pd) ∧ Below w.heap.size w wx))
  case first =>
   (first | (go_region_held3 (fun w' => w'.cell? ⟨a, 0, none⟩ = some (.int .u64 M1) ∧ w'.cell? ⟨a, 1, none⟩ = some (.int .u64 m1) ∧ w'.cell? ⟨a, 2, none⟩ = some (.int .u64 t1) ∧ w'.cell? ⟨a, 3, none⟩ = some (.string u1) ∧ w'.cell? ⟨a, 4, none⟩ = some (.string v1) ∧ w'.cell? ⟨a, 5, none⟩ = some (.string ⟨#[]⟩) ∧ w'.cell? ⟨p, 0, none⟩ = some (.int .u64 M2) ∧ w'.cell? ⟨p, 1, none⟩ = some (.int .u64 m2) ∧ w'.cell? ⟨p, 2, none⟩ = some (.int .u64 t2) ∧ w'.cell? ⟨p, 3, none⟩ = some (.string u2) ∧ w'.cell? ⟨p, 4, none⟩ = some (.string v2) ∧ w'.cell? ⟨p, 5, none⟩ = some (.string ⟨#[]⟩) ∧ w'.cell? ⟨q, 0, none⟩ = some (.pointer (some ⟨p, 0, none⟩)) ∧ w'.cell? ⟨q, 1, none⟩ = some (.string ⟨#[]⟩) ∧ w'.cell? ⟨q, 2, none⟩ = some (.string s) ∧ w'.cell? ⟨q, 3, none⟩ = some (.bool md) ∧ w'.cell? ⟨q, 4, none⟩ = some (.bool d) ∧ w'.cell? ⟨q, 5, none⟩ = some (.bool pd) ∧ Below w.heap.size w w') (first | exact keepKd (by assumption) | exact keepK ha hp hq (by assumption) (by assumption) | go_keep) (first | (go_at_call 132; (with_reducible refine (Major_any _ _ _ _ _ _ _).mono ?_); rintro e wn ⟨rfl, hb⟩) | (go_at_call 133; (with_reducible refine (Minor_any _ _ _ _ _ _ _).mono ?_); rintro e wn ⟨rfl, hb⟩) | (go_at_call 134; (with_reducible refine (Patch_any _ _ _ _ _ _ _).mono ?_); rintro e wn ⟨rfl, hb⟩) | (go_at_call 135; (with_reducible refine (Prerelease_any _ _ _ _ _ _ _).mono ?_); rintro e wn ⟨rfl, hb⟩))) | fail)
   go_wp2_with fail
   go_meet
   case rel => exact ⟨by first | rfl | rfl, Aside0.mk (by assumption)⟩
  case rest =>
  obtain ⟨rfl, hA3⟩ := hcut
  have hS3 := hA3.out
  clear hA3
  cases h2 : (M1 == M2)
  all_goals
   go_wp2_with (first | (go_at_call 170; (with_reducible refine (errNew_any _ _).mono ?_); rintro e wn ⟨⟨tp9, p9, rfl⟩, hb⟩; have hS := keepK ha hp hq (by assumption) hb))
   (go_ret2; exact ⟨⟨_, congrArg (fun b => Ending.returned (.tuple #[.bool b, _])) (by rw [ho, caretB, hl, h1, h2]; rfl)⟩, lastB (by assumption)⟩)
 go_upto_region 11 with fail
 go_cut [68] (fun vv wx => vv = .bool ((M2 == 0) && decide (0 < M1)) ∧ Aside0 (wx.cell? ⟨a, 0, none⟩ = some (.int .u64 M1) ∧ wx.cell? ⟨a, 1, none⟩ = some (.int .u64 m1) ∧ wx.cell? ⟨a, 2, none⟩ = some (.int .u64 t1) ∧ wx.cell? ⟨a, 3, none⟩ = some (.string u1) ∧ wx.cell? ⟨a, 4, none⟩ = some (.string v1) ∧ wx.cell? ⟨a, 5, none⟩ = some (.string ⟨#[]⟩) ∧ wx.cell? ⟨p, 0, none⟩ = some (.int .u64 M2) ∧ wx.cell? ⟨p, 1, none⟩ = some (.int .u64 m2) ∧ wx.cell? ⟨p, 2, none⟩ = some (.int .u64 t2) ∧ wx.cell? ⟨p, 3, none⟩ = some (.string u2) ∧ wx.cell? ⟨p, 4, none⟩ = some (.string v2) ∧ wx.cell? ⟨p, 5, none⟩ = some (.string ⟨#[]⟩) ∧ wx.cell? ⟨q, 0, none⟩ = some (.pointer (some ⟨p, 0, none⟩)) ∧ wx.cell? ⟨q, 1, none⟩ = some (.string ⟨#[]⟩) ∧ wx.cell? ⟨q, 2, none⟩ = some (.string s) ∧ wx.cell? ⟨q, 3, none⟩ = some (.bool md) ∧ wx.cell? ⟨q, 4, none⟩ = some (.bool d) ∧ wx.cell? ⟨q, 5, none⟩ = some (.bool pd) ∧ Below w.heap.size w wx))
 case first =>
  cases h3 : (M2 == 0) <;> cases h4 : decide (0 < M1)
  all_goals
   go_wp2_with (first | (go_at_call 132; (with_reducible refine (Major_any _ _ _ _ _ _ _).mono ?_); rintro e wn ⟨rfl, hb⟩; have hS := keepK ha hp hq (by assumption) hb) | (go_at_call 133; (with_reducible refine (Minor_any _ _ _ _ _ _ _).mono ?_); rintro e wn ⟨rfl, hb⟩; have hS := keepK ha hp hq (by assumption) hb) | (go_at_call 134; (with_reducible refine (Patch_any _ _ _ _ _ _ _).mono ?_); rintro e wn ⟨rfl, hb⟩; have hS := keepK ha hp hq (by assumption) hb) | (go_at_call 135; (with_reducible refine (Prerelease_any _ _ _ _ _ _ _).mono ?_); rintro e wn ⟨rfl, hb⟩; have hS := keepK ha hp hq (by assumption) hb))
   go_meet
   case rel => exact ⟨by first | rfl | (first | (simp only [h3]; rfl) | (simp only [h3, h4]; rfl)), Aside0.mk (by assumption)⟩
 case rest =>
 obtain ⟨rfl, hA4⟩ := hcut
 have hS4 := hA4.out
 clear hA4
 cases h5 : ((M2 == 0) && decide (0 < M1))
 case true =>
  go_wp2_with (first | (go_at_call 170; (with_reducible refine (errNew_any _ _).mono ?_); rintro e wn ⟨⟨tp9, p9, rfl⟩, hb⟩; have hS := keepK ha hp hq (by assumption) hb))
  (go_ret2; exact ⟨⟨_, congrArg (fun b => Ending.returned (.tuple #[.bool b, _])) (by rw [ho, caretB, hl, h1, h5]; rfl)⟩, lastB (by assumption)⟩)
 go_upto_region 13 with fail
 go_cut [83] (fun vv wx => vv = .bool (decide (0 < m2) || pd) ∧ Aside0 (wx.cell? ⟨a, 0, none⟩ = some (.int .u64 M1) ∧ wx.cell? ⟨a, 1, none⟩ = some (.int .u64 m1) ∧ wx.cell? ⟨a, 2, none⟩ = some (.int .u64 t1) ∧ wx.cell? ⟨a, 3, none⟩ = some (.string u1) ∧ wx.cell? ⟨a, 4, none⟩ = some (.string v1) ∧ wx.cell? ⟨a, 5, none⟩ = some (.string ⟨#[]⟩) ∧ wx.cell? ⟨p, 0, none⟩ = some (.int .u64 M2) ∧ wx.cell? ⟨p, 1, none⟩ = some (.int .u64 m2) ∧ wx.cell? ⟨p, 2, none⟩ = some (.int .u64 t2) ∧ wx.cell? ⟨p, 3, none⟩ = some (.string u2) ∧ wx.cell? ⟨p, 4, none⟩ = some (.string v2) ∧ wx.cell? ⟨p, 5, none⟩ = some (.string ⟨#[]⟩) ∧ wx.cell? ⟨q, 0, none⟩ = some (.pointer (some ⟨p, 0, none⟩)) ∧ wx.cell? ⟨q, 1, none⟩ = some (.string ⟨#[]⟩) ∧ wx.cell? ⟨q, 2, none⟩ = some (.string s) ∧ wx.cell? ⟨q, 3, none⟩ = some (.bool md) ∧ wx.cell? ⟨q, 4, none⟩ = some (.bool d) ∧ wx.cell? ⟨q, 5, none⟩ = some (.bool pd) ∧ Below w.heap.size w wx))
 case first =>
  cases h6 : decide (0 < m2) <;> cases pd
  all_goals
   go_wp2_with (first | (go_at_call 132; (with_reducible refine (Major_any _ _ _ _ _ _ _).mono ?_); rintro e wn ⟨rfl, hb⟩; have hS := keepK ha hp hq (by assumption) hb) | (go_at_call 133; (with_reducible refine (Minor_any _ _ _ _ _ _ _).mono ?_); rintro e wn ⟨rfl, hb⟩; have hS := keepK ha hp hq (by assumption) hb) | (go_at_call 134; (with_reducible refine (Patch_any _ _ _ _ _ _ _).mono ?_); rintro e wn ⟨rfl, hb⟩; have hS := keepK ha hp hq (by assumption) hb) | (go_at_call 135; (with_reducible refine (Prerelease_any _ _ _ _ _ _ _).mono ?_); rintro e wn ⟨rfl, hb⟩; have hS := keepK ha hp hq (by assumption) hb))
   go_meet
   case rel => exact ⟨by first | rfl | (rw [h6]; rfl), Aside0.mk (by assumption)⟩
 case rest =>
 obtain ⟨rfl, hA5⟩ := hcut
 have hS5 := hA5.out
 clear hA5
 cases h7 : (decide (0 < m2) || pd)
 case true =>
  go_upto_region 14 with fail
  go_cut [8] (fun vv wx => vv = .bool (m1 == m2) ∧ Aside0 (wx.cell? ⟨a, 0, none⟩ = some (.int .u64 M1) ∧ wx.cell? ⟨a, 1, none⟩ = some (.int .u64 m1) ∧ wx.cell? ⟨a, 2, none⟩ = some (.int .u64 t1) ∧ wx.cell? ⟨a, 3, none⟩ = some (.string u1) ∧ wx.cell? ⟨a, 4, none⟩ = some (.string v1) ∧ wx.cell? ⟨a, 5, none⟩ = some (.string ⟨#[]⟩) ∧ wx.cell? ⟨p, 0, none⟩ = some (.int .u64 M2) ∧ wx.cell? ⟨p, 1, none⟩ = some (.int .u64 m2) ∧ wx.cell? ⟨p, 2, none⟩ = some (.int .u64 t2) ∧ wx.cell? ⟨p, 3, none⟩ = some (.string u2) ∧ wx.cell? ⟨p, 4, none⟩ = some (.string v2) ∧ wx.cell? ⟨p, 5, none⟩ = some (.string ⟨#[]⟩) ∧ wx.cell? ⟨q, 0, none⟩ = some (.pointer (some ⟨p, 0, none⟩)) ∧ wx.cell? ⟨q, 1, none⟩ = some (.string ⟨#[]⟩) ∧ wx.cell? ⟨q, 2, none⟩ = some (.string s) ∧ wx.cell? ⟨q, 3, none⟩ = some (.bool md) ∧ wx.cell? ⟨q, 4, none⟩ = some (.bool d) ∧ wx.cell? ⟨q, 5, none⟩ = some (.bool pd) ∧ Below w.heap.size w wx))
  case first =>
   (first | (go_region_held3 (fun w' => w'.cell? ⟨a, 0, none⟩ = some (.int .u64 M1) ∧ w'.cell? ⟨a, 1, none⟩ = some (.int .u64 m1) ∧ w'.cell? ⟨a, 2, none⟩ = some (.int .u64 t1) ∧ w'.cell? ⟨a, 3, none⟩ = some (.string u1) ∧ w'.cell? ⟨a, 4, none⟩ = some (.string v1) ∧ w'.cell? ⟨a, 5, none⟩ = some (.string ⟨#[]⟩) ∧ w'.cell? ⟨p, 0, none⟩ = some (.int .u64 M2) ∧ w'.cell? ⟨p, 1, none⟩ = some (.int .u64 m2) ∧ w'.cell? ⟨p, 2, none⟩ = some (.int .u64 t2) ∧ w'.cell? ⟨p, 3, none⟩ = some (.string u2) ∧ w'.cell? ⟨p, 4, none⟩ = some (.string v2) ∧ w'.cell? ⟨p, 5, none⟩ = some (.string ⟨#[]⟩) ∧ w'.cell? ⟨q, 0, none⟩ = some (.pointer (some ⟨p, 0, none⟩)) ∧ w'.cell? ⟨q, 1, none⟩ = some (.string ⟨#[]⟩) ∧ w'.cell? ⟨q, 2, none⟩ = some (.string s) ∧ w'.cell? ⟨q, 3, none⟩ = some (.bool md) ∧ w'.cell? ⟨q, 4, none⟩ = some (.bool d) ∧ w'.cell? ⟨q, 5, none⟩ = some (.bool pd) ∧ Below w.heap.size w w') (first | exact keepKd (by assumption) | exact keepK ha hp hq (by assumption) (by assumption) | go_keep) (first | (go_at_call 132; (with_reducible refine (Major_any _ _ _ _ _ _ _).mono ?_); rintro e wn ⟨rfl, hb⟩) | (go_at_call 133; (with_reducible refine (Minor_any _ _ _ _ _ _ _).mono ?_); rintro e wn ⟨rfl, hb⟩) | (go_at_call 134; (with_reducible refine (Patch_any _ _ _ _ _ _ _).mono ?_); rintro e wn ⟨rfl, hb⟩) | (go_at_call 135; (with_reducible refine (Prerelease_any _ _ _ _ _ _ _).mono ?_); rintro e wn ⟨rfl, hb⟩))) | fail)
   go_wp2_with fail
   go_meet
   case rel => exact ⟨by first | rfl | rfl, Aside0.mk (by assumption)⟩
  case rest =>
  obtain ⟨rfl, hA6⟩ := hcut
  have hS6 := hA6.out
  clear hA6
  cases h8 : (m1 == m2)
  all_goals
   go_wp2_with (first | (go_at_call 170; (with_reducible refine (errNew_any _ _).mono ?_); rintro e wn ⟨⟨tp9, p9, rfl⟩, hb⟩; have hS := keepK ha hp hq (by assumption) hb))
   (go_ret2; exact ⟨⟨_, congrArg (fun b => Ending.returned (.tuple #[.bool b, _])) (by rw [ho, caretB, hl, h1, h5, h7, h8]; rfl)⟩, lastB (by assumption)⟩)
 go_upto_region 18 with fail
 go_cut [112] (fun vv wx => vv = .bool ((m2 == 0) && decide (0 < m1)) ∧ Aside0 (wx.cell? ⟨a, 0, none⟩ = some (.int .u64 M1) ∧ wx.cell? ⟨a, 1, none⟩ = some (.int .u64 m1) ∧ wx.cell? ⟨a, 2, none⟩ = some (.int .u64 t1) ∧ wx.cell? ⟨a, 3, none⟩ = some (.string u1) ∧ wx.cell? ⟨a, 4, none⟩ = some (.string v1) ∧ wx.cell? ⟨a, 5, none⟩ = some (.string ⟨#[]⟩) ∧ wx.cell? ⟨p, 0, none⟩ = some (.int .u64 M2) ∧ wx.cell? ⟨p, 1, none⟩ = some (.int .u64 m2) ∧ wx.cell? ⟨p, 2, none⟩ = some (.int .u64 t2) ∧ wx.cell? ⟨p, 3, none⟩ = some (.string u2) ∧ wx.cell? ⟨p, 4, none⟩ = some (.string v2) ∧ wx.cell? ⟨p, 5, none⟩ = some (.string ⟨#[]⟩) ∧ wx.cell? ⟨q, 0, none⟩ = some (.pointer (some ⟨p, 0, none⟩)) ∧ wx.cell? ⟨q, 1, none⟩ = some (.string ⟨#[]⟩) ∧ wx.cell? ⟨q, 2, none⟩ = some (.string s) ∧ wx.cell? ⟨q, 3, none⟩ = some (.bool md) ∧ wx.cell? ⟨q, 4, none⟩ = some (.bool d) ∧ wx.cell? ⟨q, 5, none⟩ = some (.bool pd) ∧ Below w.heap.size w wx))
 case first =>
  cases h9 : (m2 == 0) <;> cases h10 : decide (0 < m1)
  all_goals
   go_wp2_with (first | (go_at_call 132; (with_reducible refine (Major_any _ _ _ _ _ _ _).mono ?_); rintro e wn ⟨rfl, hb⟩; have hS := keepK ha hp hq (by assumption) hb) | (go_at_call 133; (with_reducible refine (Minor_any _ _ _ _ _ _ _).mono ?_); rintro e wn ⟨rfl, hb⟩; have hS := keepK ha hp hq (by assumption) hb) | (go_at_call 134; (with_reducible refine (Patch_any _ _ _ _ _ _ _).mono ?_); rintro e wn ⟨rfl, hb⟩; have hS := keepK ha hp hq (by assumption) hb) | (go_at_call 135; (with_reducible refine (Prerelease_any _ _ _ _ _ _ _).mono ?_); rintro e wn ⟨rfl, hb⟩; have hS := keepK ha hp hq (by assumption) hb))
   go_meet
   case rel => exact ⟨by first | rfl | (first | (simp only [h9]; rfl) | (simp only [h9, h10]; rfl)), Aside0.mk (by assumption)⟩
 case rest =>
 obtain ⟨rfl, hA7⟩ := hcut
 have hS7 := hA7.out
 clear hA7
 cases h11 : ((m2 == 0) && decide (0 < m1))
 case true =>
  go_wp2_with (first | (go_at_call 170; (with_reducible refine (errNew_any _ _).mono ?_); rintro e wn ⟨⟨tp9, p9, rfl⟩, hb⟩; have hS := keepK ha hp hq (by assumption) hb))
  (go_ret2; exact ⟨⟨_, congrArg (fun b => Ending.returned (.tuple #[.bool b, _])) (by rw [ho, caretB, hl, h1, h5, h7, h11]; rfl)⟩, lastB (by assumption)⟩)
 go_upto_region 20 with fail
 go_cut [8] (fun vv wx => vv = .bool (t2 == t1) ∧ Aside0 (wx.cell? ⟨a, 0, none⟩ = some (.int .u64 M1) ∧ wx.cell? ⟨a, 1, none⟩ = some (.int .u64 m1) ∧ wx.cell? ⟨a, 2, none⟩ = some (.int .u64 t1) ∧ wx.cell? ⟨a, 3, none⟩ = some (.string u1) ∧ wx.cell? ⟨a, 4, none⟩ = some (.string v1) ∧ wx.cell? ⟨a, 5, none⟩ = some (.string ⟨#[]⟩) ∧ wx.cell? ⟨p, 0, none⟩ = some (.int .u64 M2) ∧ wx.cell? ⟨p, 1, none⟩ = some (.int .u64 m2) ∧ wx.cell? ⟨p, 2, none⟩ = some (.int .u64 t2) ∧ wx.cell? ⟨p, 3, none⟩ = some (.string u2) ∧ wx.cell? ⟨p, 4, none⟩ = some (.string v2) ∧ wx.cell? ⟨p, 5, none⟩ = some (.string ⟨#[]⟩) ∧ wx.cell? ⟨q, 0, none⟩ = some (.pointer (some ⟨p, 0, none⟩)) ∧ wx.cell? ⟨q, 1, none⟩ = some (.string ⟨#[]⟩) ∧ wx.cell? ⟨q, 2, none⟩ = some (.string s) ∧ wx.cell? ⟨q, 3, none⟩ = some (.bool md) ∧ wx.cell? ⟨q, 4, none⟩ = some (.bool d) ∧ wx.cell? ⟨q, 5, none⟩ = some (.bool pd) ∧ Below w.heap.size w wx))
 case first =>
  (first | (go_region_held3 (fun w' => w'.cell? ⟨a, 0, none⟩ = some (.int .u64 M1) ∧ w'.cell? ⟨a, 1, none⟩ = some (.int .u64 m1) ∧ w'.cell? ⟨a, 2, none⟩ = some (.int .u64 t1) ∧ w'.cell? ⟨a, 3, none⟩ = some (.string u1) ∧ w'.cell? ⟨a, 4, none⟩ = some (.string v1) ∧ w'.cell? ⟨a, 5, none⟩ = some (.string ⟨#[]⟩) ∧ w'.cell? ⟨p, 0, none⟩ = some (.int .u64 M2) ∧ w'.cell? ⟨p, 1, none⟩ = some (.int .u64 m2) ∧ w'.cell? ⟨p, 2, none⟩ = some (.int .u64 t2) ∧ w'.cell? ⟨p, 3, none⟩ = some (.string u2) ∧ w'.cell? ⟨p, 4, none⟩ = some (.string v2) ∧ w'.cell? ⟨p, 5, none⟩ = some (.string ⟨#[]⟩) ∧ w'.cell? ⟨q, 0, none⟩ = some (.pointer (some ⟨p, 0, none⟩)) ∧ w'.cell? ⟨q, 1, none⟩ = some (.string ⟨#[]⟩) ∧ w'.cell? ⟨q, 2, none⟩ = some (.string s) ∧ w'.cell? ⟨q, 3, none⟩ = some (.bool md) ∧ w'.cell? ⟨q, 4, none⟩ = some (.bool d) ∧ w'.cell? ⟨q, 5, none⟩ = some (.bool pd) ∧ Below w.heap.size w w') (first | exact keepKd (by assumption) | exact keepK ha hp hq (by assumption) (by assumption) | go_keep) (first | (go_at_call 132; (with_reducible refine (Major_any _ _ _ _ _ _ _).mono ?_); rintro e wn ⟨rfl, hb⟩) | (go_at_call 133; (with_reducible refine (Minor_any _ _ _ _ _ _ _).mono ?_); rintro e wn ⟨rfl, hb⟩) | (go_at_call 134; (with_reducible refine (Patch_any _ _ _ _ _ _ _).mono ?_); rintro e wn ⟨rfl, hb⟩) | (go_at_call 135; (with_reducible refine (Prerelease_any _ _ _ _ _ _ _).mono ?_); rintro e wn ⟨rfl, hb⟩))) | fail)
  go_wp2_with fail
  go_meet
  case rel => exact ⟨by first | rfl | rfl, Aside0.mk (by assumption)⟩
 case rest =>
 obtain ⟨rfl, hA8⟩ := hcut
 have hS8 := hA8.out
 clear hA8
 cases h12 : (t2 == t1)
 all_goals
  go_wp2_with (first | (go_at_call 170; (with_reducible refine (errNew_any _ _).mono ?_); rintro e wn ⟨⟨tp9, p9, rfl⟩, hb⟩; have hS := keepK ha hp hq (by assumption) hb))
  (go_ret2; exact ⟨⟨_, congrArg (fun b => Ending.returned (.tuple #[.bool b, _])) (by rw [ho, caretB, hl, h1, h5, h7, h11, h12]; rfl)⟩, lastB (by assumption)⟩)
end Go.Proofs.YtalpehfjjidfhaaDoor.Hand
