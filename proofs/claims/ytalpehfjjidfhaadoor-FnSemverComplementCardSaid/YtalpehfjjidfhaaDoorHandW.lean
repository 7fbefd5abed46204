/- What is proved: by hand, the comparison <= of constraints, as a plain function of its parts. -/
import Derived.Test.YtalpehfjjidfhaaDoorHandK
namespace Go.Proofs.YtalpehfjjidfhaaDoor.Hand
set_option linter.unusedVariables false
set_option linter.unusedSimpArgs false
open Go.RowKit Go.Proofs.YtalpehfjjidfhaaDoorW.PrintWords Sv
/-- What <= says of a version that is let in. -/
def mostB (c M1 m1 M2 m2 : Int) (d md : Bool) : Bool := if !d then decide (c ≤ 0) else if decide (M2 < M1) then false else !((M1 == M2 && decide (m2 < m1)) && !md)
set_option maxHeartbeats 4000000 in
set_option maxRecDepth 100000 in
theorem cLE_any (M1 m1 t1 : Int) (u1 v1 : ByteArray) (M2 m2 t2 : Int) (u2 v2 : ByteArray) (s : ByteArray) (d md pd : Bool) (a p q : Nat) (w : World) (hG0 : Gl w) (s1 : u1.size < 8796093022208) (s2 : u2.size < 8796093022208) (hV : VAt w a M1 m1 t1 u1 v1) (hC : VAt w p M2 m2 t2 u2 v2) (hK : KAt w q p s d md pd) (pre : Bool) :
  Calls Tryd.prog 175 #[.pointer (some ⟨a, 0, none⟩), .pointer (some ⟨q, 0, none⟩), .bool pre] w fun e w' => (∃ ev, e = .returned (.tuple #[.bool (openB pre u1 && mostB (cmpVer M1 m1 t1 u1 M2 m2 t2 u2) M1 m1 M2 m2 d md), ev])) ∧ Below w.heap.size w w' := by
 have ha := hV.lt
 have hp := hC.lt
 have hq := hK.lt
 have hS0 := startK hV hC hK
 have C : ∀ cur : World, (cur.cell? ⟨a, 0, none⟩ = some (.int .u64 M1) ∧ cur.cell? ⟨a, 1, none⟩ = some (.int .u64 m1) ∧ cur.cell? ⟨a, 2, none⟩ = some (.int .u64 t1) ∧ cur.cell? ⟨a, 3, none⟩ = some (.string u1) ∧ cur.cell? ⟨a, 4, none⟩ = some (.string v1) ∧ cur.cell? ⟨a, 5, none⟩ = some (.string ⟨#[]⟩) ∧ cur.cell? ⟨p, 0, none⟩ = some (.int .u64 M2) ∧ cur.cell? ⟨p, 1, none⟩ = some (.int .u64 m2) ∧ cur.cell? ⟨p, 2, none⟩ = some (.int .u64 t2) ∧ cur.cell? ⟨p, 3, none⟩ = some (.string u2) ∧ cur.cell? ⟨p, 4, none⟩ = some (.string v2) ∧ cur.cell? ⟨p, 5, none⟩ = some (.string ⟨#[]⟩) ∧ cur.cell? ⟨q, 0, none⟩ = some (.pointer (some ⟨p, 0, none⟩)) ∧ cur.cell? ⟨q, 1, none⟩ = some (.string ⟨#[]⟩) ∧ cur.cell? ⟨q, 2, none⟩ = some (.string s) ∧ cur.cell? ⟨q, 3, none⟩ = some (.bool md) ∧ cur.cell? ⟨q, 4, none⟩ = some (.bool d) ∧ cur.cell? ⟨q, 5, none⟩ = some (.bool pd) ∧ Below w.heap.size w cur) → Calls Tryd.prog 84 #[.pointer (some ⟨a, 0, none⟩), .pointer (some ⟨p, 0, none⟩)] cur fun e w' => e = .returned (.int .i64 (cmpVer M1 m1 t1 u1 M2 m2 t2 u2)) ∧ Below cur.heap.size cur w' :=
  fun cur h => Compare_at M1 m1 t1 u1 v1 M2 m2 t2 u2 v2 a p cur (VofS ha h) (CofS hp h) (GofS hG0 h) s1 s2
 generalize cmpVer M1 m1 t1 u1 M2 m2 t2 u2 = c at C ⊢
 go_enter Tryd.func175, Tryd.ntmps175
 go_upto_region 1 with fail
 go_cut [17] (fun vv wx => vv = .bool (!openB pre u1) ∧ Aside0 (wx.cell? ⟨a, 0, none⟩ = some (.int .u64 M1) ∧ wx.cell? ⟨a, 1, none⟩ = some (.int .u64 m1) ∧ wx.cell? ⟨a, 2, none⟩ = some (.int .u64 t1) ∧ wx.cell? ⟨a, 3, none⟩ = some (.string u1) ∧ wx.cell? ⟨a, 4, none⟩ = some (.string v1) ∧ wx.cell? ⟨a, 5, none⟩ = some (.string ⟨#[]⟩) ∧ wx.cell? ⟨p, 0, none⟩ = some (.int .u64 M2) ∧ wx.cell? ⟨p, 1, none⟩ = some (.int .u64 m2) ∧ wx.cell? ⟨p, 2, none⟩ = some (.int .u64 t2) ∧ wx.cell? ⟨p, 3, none⟩ = some (.string u2) ∧ wx.cell? ⟨p, 4, none⟩ = some (.string v2) ∧ wx.cell? ⟨p, 5, none⟩ = some (.string ⟨#[]⟩) ∧ wx.cell? ⟨q, 0, none⟩ = some (.pointer (some ⟨p, 0, none⟩)) ∧ wx.cell? ⟨q, 1, none⟩ = some (.string ⟨#[]⟩) ∧ wx.cell? ⟨q, 2, none⟩ = some (.string s) ∧ wx.cell? ⟨q, 3, none⟩ = some (.bool md) ∧ wx.cell? ⟨q, 4, none⟩ = some (.bool d) ∧ wx.cell? ⟨q, 5, none⟩ = some (.bool pd) ∧ Below w.heap.size w wx))
 case first =>
  cases hu : u1.toList.isEmpty <;> cases pre
  all_goals
   go_wp2_with (first | (go_at_call 132; (with_reducible refine (Major_any _ _ _ _ _ _ _).mono ?_); rintro e wn ⟨rfl, hb⟩; have hS := keepK ha hp hq (by assumption) hb) | (go_at_call 133; (with_reducible refine (Minor_any _ _ _ _ _ _ _).mono ?_); rintro e wn ⟨rfl, hb⟩; have hS := keepK ha hp hq (by assumption) hb) | (go_at_call 134; (with_reducible refine (Patch_any _ _ _ _ _ _ _).mono ?_); rintro e wn ⟨rfl, hb⟩; have hS := keepK ha hp hq (by assumption) hb) | (go_at_call 135; (with_reducible refine (Prerelease_any _ _ _ _ _ _ _).mono ?_); rintro e wn ⟨rfl, hb⟩; have hS := keepK ha hp hq (by assumption) hb))
   go_meet
   case rel => exact ⟨by first | rfl | (unfold openB; rw [hu]; rfl), Aside0.mk (by assumption)⟩
 case rest =>
 obtain ⟨rfl, hA1⟩ := hcut
 have hS1 := hA1.out
 clear hA1
 cases ho : openB pre u1
 ·
  rw [Bool.not_false] at *
  go_wp2_with (first | (go_at_call 170; (with_reducible refine (errNew_any _ _).mono ?_); rintro e wn ⟨⟨tp9, p9, rfl⟩, hb⟩; have hS := keepK ha hp hq (by assumption) hb))
  (go_ret2; exact ⟨⟨_, congrArg (fun b => Ending.returned (.tuple #[.bool b, _])) (by rw [ho]; rfl)⟩, lastB (by assumption)⟩)
 rw [Bool.not_true] at *
 go_upto_region 4 with fail
 go_cut [23] (fun vv wx => vv = .bool (!d) ∧ Aside0 (wx.cell? ⟨a, 0, none⟩ = some (.int .u64 M1) ∧ wx.cell? ⟨a, 1, none⟩ = some (.int .u64 m1) ∧ wx.cell? ⟨a, 2, none⟩ = some (.int .u64 t1) ∧ wx.cell? ⟨a, 3, none⟩ = some (.string u1) ∧ wx.cell? ⟨a, 4, none⟩ = some (.string v1) ∧ wx.cell? ⟨a, 5, none⟩ = some (.string ⟨#[]⟩) ∧ wx.cell? ⟨p, 0, none⟩ = some (.int .u64 M2) ∧ wx.cell? ⟨p, 1, none⟩ = some (.int .u64 m2) ∧ wx.cell? ⟨p, 2, none⟩ = some (.int .u64 t2) ∧ wx.cell? ⟨p, 3, none⟩ = some (.string u2) ∧ wx.cell? ⟨p, 4, none⟩ = some (.string v2) ∧ wx.cell? ⟨p, 5, none⟩ = some (.string ⟨#[]⟩) ∧ wx.cell? ⟨q, 0, none⟩ = some (.pointer (some ⟨p, 0, none⟩)) ∧ wx.cell? ⟨q, 1, none⟩ = some (.string ⟨#[]⟩) ∧ wx.cell? ⟨q, 2, none⟩ = some (.string s) ∧ wx.cell? ⟨q, 3, none⟩ = some (.bool md) ∧ wx.cell? ⟨q, 4, none⟩ = some (.bool d) ∧ wx.cell? ⟨q, 5, none⟩ = some (.bool pd) ∧ Below w.heap.size w wx))
 case first =>
  go_wp2_with fail
  go_meet
  case rel => exact ⟨by first | rfl | rfl, Aside0.mk (by assumption)⟩
 case rest =>
 obtain ⟨rfl, hA2⟩ := hcut
 have hS2 := hA2.out
 clear hA2
 cases hd : (!d)
 case true =>
  go_upto_region 5 with fail
  go_cut [8] (fun vv wx => vv = .bool (decide (c ≤ 0)) ∧ Aside0 (wx.cell? ⟨a, 0, none⟩ = some (.int .u64 M1) ∧ wx.cell? ⟨a, 1, none⟩ = some (.int .u64 m1) ∧ wx.cell? ⟨a, 2, none⟩ = some (.int .u64 t1) ∧ wx.cell? ⟨a, 3, none⟩ = some (.string u1) ∧ wx.cell? ⟨a, 4, none⟩ = some (.string v1) ∧ wx.cell? ⟨a, 5, none⟩ = some (.string ⟨#[]⟩) ∧ wx.cell? ⟨p, 0, none⟩ = some (.int .u64 M2) ∧ wx.cell? ⟨p, 1, none⟩ = some (.int .u64 m2) ∧ wx.cell? ⟨p, 2, none⟩ = some (.int .u64 t2) ∧ wx.cell? ⟨p, 3, none⟩ = some (.string u2) ∧ wx.cell? ⟨p, 4, none⟩ = some (.string v2) ∧ wx.cell? ⟨p, 5, none⟩ = some (.string ⟨#[]⟩) ∧ wx.cell? ⟨q, 0, none⟩ = some (.pointer (some ⟨p, 0, none⟩)) ∧ wx.cell? ⟨q, 1, none⟩ = some (.string ⟨#[]⟩) ∧ wx.cell? ⟨q, 2, none⟩ = some (.string s) ∧ wx.cell? ⟨q, 3, none⟩ = some (.bool md) ∧ wx.cell? ⟨q, 4, none⟩ = some (.bool d) ∧ wx.cell? ⟨q, 5, none⟩ = some (.bool pd) ∧ Below w.heap.size w wx))
  case first =>
   go_wp2_with (first | (go_at_call 84; (with_reducible refine (C _ ?_).mono ?_); assumption; rintro e wn ⟨rfl, hb⟩; have hS := keepK ha hp hq (by assumption) hb))
   go_meet
   case rel => exact ⟨by first | rfl | rfl, Aside0.mk (by assumption)⟩
  case rest =>
  obtain ⟨rfl, hA3⟩ := hcut
  have hS3 := hA3.out
  clear hA3
  cases hc : decide (c ≤ 0)
  all_goals
   go_wp2_with (first | (go_at_call 170; (with_reducible refine (errNew_any _ _).mono ?_); rintro e wn ⟨⟨tp9, p9, rfl⟩, hb⟩; have hS := keepK ha hp hq (by assumption) hb))
   (go_ret2; exact ⟨⟨_, congrArg (fun b => Ending.returned (.tuple #[.bool b, _])) (by rw [ho, mostB, hd, hc]; rfl)⟩, lastB (by assumption)⟩)
 go_upto_region 9 with fail
 go_cut [44] (fun vv wx => vv = .bool (decide (M2 < M1)) ∧ Aside0 (wx.cell? ⟨a, 0, none⟩ = some (.int .u64 M1) ∧ wx.cell? ⟨a, 1, none⟩ = some (.int .u64 m1) ∧ wx.cell? ⟨a, 2, none⟩ = some (.int .u64 t1) ∧ wx.cell? ⟨a, 3, none⟩ = some (.string u1) ∧ wx.cell? ⟨a, 4, none⟩ = some (.string v1) ∧ wx.cell? ⟨a, 5, none⟩ = some (.string ⟨#[]⟩) ∧ wx.cell? ⟨p, 0, none⟩ = some (.int .u64 M2) ∧ wx.cell? ⟨p, 1, none⟩ = some (.int .u64 m2) ∧ wx.cell? ⟨p, 2, none⟩ = some (.int .u64 t2) ∧ wx.cell? ⟨p, 3, none⟩ = some (.string u2) ∧ wx.cell? ⟨p, 4, none⟩ = some (.string v2) ∧ wx.cell? ⟨p, 5, none⟩ = some (.string ⟨#[]⟩) ∧ wx.cell? ⟨q, 0, none⟩ = some (.pointer (some ⟨p, 0, none⟩)) ∧ wx.cell? ⟨q, 1, none⟩ = some (.string ⟨#[]⟩) ∧ wx.cell? ⟨q, 2, none⟩ = some (.string s) ∧ wx.cell? ⟨q, 3, none⟩ = some (.bool md) ∧ wx.cell? ⟨q, 4, none⟩ = some (.bool d) ∧ wx.cell? ⟨q, 5, none⟩ = some (.bool pd) ∧ Below w.heap.size w wx))
 case first =>
  (first | (go_region_held3 (fun w' => w'.cell? ⟨a, 0, none⟩ = some (.int .u64 M1) ∧ w'.cell? ⟨a, 1, none⟩ = some (.int .u64 m1) ∧ w'.cell? ⟨a, 2, none⟩ = some (.int .u64 t1) ∧ w'.cell? ⟨a, 3, none⟩ = some (.string u1) ∧ w'.cell? ⟨a, 4, none⟩ = some (.string v1) ∧ w'.cell? ⟨a, 5, none⟩ = some (.string ⟨#[]⟩) ∧ w'.cell? ⟨p, 0, none⟩ = some (.int .u64 M2) ∧ w'.cell? ⟨p, 1, none⟩ = some (.int .u64 m2) ∧ w'.cell? ⟨p, 2, none⟩ = some (.int .u64 t2) ∧ w'.cell? ⟨p, 3, none⟩ = some (.string u2) ∧ w'.cell? ⟨p, 4, none⟩ = some (.string v2) ∧ w'.cell? ⟨p, 5, none⟩ = some (.string ⟨#[]⟩) ∧ w'.cell? ⟨q, 0, none⟩ = some (.pointer (some ⟨p, 0, none⟩)) ∧ w'.cell? ⟨q, 1, none⟩ = some (.string ⟨#[]⟩) ∧ w'.cell? ⟨q, 2, none⟩ = some (.string s) ∧ w'.cell? ⟨q, 3, none⟩ = some (.bool md) ∧ w'.cell? ⟨q, 4, none⟩ = some (.bool d) ∧ w'.cell? ⟨q, 5, none⟩ = some (.bool pd) ∧ Below w.heap.size w w') (first | exact keepKd (by assumption) | exact keepK ha hp hq (by assumption) (by assumption) | go_keep) (first | (go_at_call 132; (with_reducible refine (Major_any _ _ _ _ _ _ _).mono ?_); rintro e wn ⟨rfl, hb⟩) | (go_at_call 133; (with_reducible refine (Minor_any _ _ _ _ _ _ _).mono ?_); rintro e wn ⟨rfl, hb⟩) | (go_at_call 134; (with_reducible refine (Patch_any _ _ _ _ _ _ _).mono ?_); rintro e wn ⟨rfl, hb⟩) | (go_at_call 135; (with_reducible refine (Prerelease_any _ _ _ _ _ _ _).mono ?_); rintro e wn ⟨rfl, hb⟩))) | fail)
  go_wp2_with fail
  go_meet
  case rel => exact ⟨by first | rfl | rfl, Aside0.mk (by assumption)⟩
 case rest =>
 obtain ⟨rfl, hA4⟩ := hcut
 have hS4 := hA4.out
 clear hA4
 cases h1 : decide (M2 < M1)
 case true =>
  go_wp2_with (first | (go_at_call 170; (with_reducible refine (errNew_any _ _).mono ?_); rintro e wn ⟨⟨tp9, p9, rfl⟩, hb⟩; have hS := keepK ha hp hq (by assumption) hb))
  (go_ret2; exact ⟨⟨_, congrArg (fun b => Ending.returned (.tuple #[.bool b, _])) (by rw [ho, mostB, hd, h1]; rfl)⟩, lastB (by assumption)⟩)
 go_upto_region 11 with fail
 go_cut [78] (fun vv wx => vv = .bool ((M1 == M2 && decide (m2 < m1)) && !md) ∧ Aside0 (wx.cell? ⟨a, 0, none⟩ = some (.int .u64 M1) ∧ wx.cell? ⟨a, 1, none⟩ = some (.int .u64 m1) ∧ wx.cell? ⟨a, 2, none⟩ = some (.int .u64 t1) ∧ wx.cell? ⟨a, 3, none⟩ = some (.string u1) ∧ wx.cell? ⟨a, 4, none⟩ = some (.string v1) ∧ wx.cell? ⟨a, 5, none⟩ = some (.string ⟨#[]⟩) ∧ wx.cell? ⟨p, 0, none⟩ = some (.int .u64 M2) ∧ wx.cell? ⟨p, 1, none⟩ = some (.int .u64 m2) ∧ wx.cell? ⟨p, 2, none⟩ = some (.int .u64 t2) ∧ wx.cell? ⟨p, 3, none⟩ = some (.string u2) ∧ wx.cell? ⟨p, 4, none⟩ = some (.string v2) ∧ wx.cell? ⟨p, 5, none⟩ = some (.string ⟨#[]⟩) ∧ wx.cell? ⟨q, 0, none⟩ = some (.pointer (some ⟨p, 0, none⟩)) ∧ wx.cell? ⟨q, 1, none⟩ = some (.string ⟨#[]⟩) ∧ wx.cell? ⟨q, 2, none⟩ = some (.string s) ∧ wx.cell? ⟨q, 3, none⟩ = some (.bool md) ∧ wx.cell? ⟨q, 4, none⟩ = some (.bool d) ∧ wx.cell? ⟨q, 5, none⟩ = some (.bool pd) ∧ Below w.heap.size w wx))
 case first =>
  cases h2 : (M1 == M2)
  case false =>
   refine wp_region_held_drew (S := (fun w' => w'.cell? ⟨a, 0, none⟩ = some (.int .u64 M1) ∧ w'.cell? ⟨a, 1, none⟩ = some (.int .u64 m1) ∧ w'.cell? ⟨a, 2, none⟩ = some (.int .u64 t1) ∧ w'.cell? ⟨a, 3, none⟩ = some (.string u1) ∧ w'.cell? ⟨a, 4, none⟩ = some (.string v1) ∧ w'.cell? ⟨a, 5, none⟩ = some (.string ⟨#[]⟩) ∧ w'.cell? ⟨p, 0, none⟩ = some (.int .u64 M2) ∧ w'.cell? ⟨p, 1, none⟩ = some (.int .u64 m2) ∧ w'.cell? ⟨p, 2, none⟩ = some (.int .u64 t2) ∧ w'.cell? ⟨p, 3, none⟩ = some (.string u2) ∧ w'.cell? ⟨p, 4, none⟩ = some (.string v2) ∧ w'.cell? ⟨p, 5, none⟩ = some (.string ⟨#[]⟩) ∧ w'.cell? ⟨q, 0, none⟩ = some (.pointer (some ⟨p, 0, none⟩)) ∧ w'.cell? ⟨q, 1, none⟩ = some (.string ⟨#[]⟩) ∧ w'.cell? ⟨q, 2, none⟩ = some (.string s) ∧ w'.cell? ⟨q, 3, none⟩ = some (.bool md) ∧ w'.cell? ⟨q, 4, none⟩ = some (.bool d) ∧ w'.cell? ⟨q, 5, none⟩ = some (.bool pd) ∧ Below w.heap.size w w')) (by kernel_rfl) ?_ (fun hHeld => ?_)
   ·
    exact keepKd (by assumption)
   refine wpAnyH_take (i := 0) (oi := { dst := some 46, op := Go.Op.move (Go.Operand.tmp 0), type := 79, pos := "constraints.go:439", after := #[], guard := none }) (v := ?_) rfl (by kernel_rfl) (by kernel_rfl) (by kernel_rfl) (fun _ _ _ h => h) (Or.inl ⟨by rfl, ?_⟩) (by assumption) ?_
   rotate_left
   ·
    (intro wx hSw; (try dsimp only at hSw); go_simp; first | done | with_reducible rfl)
   try simp only [Act.put, putA, putZ, putS]
   refine wpAnyH_take (i := 1) (oi := { dst := some 47, op := Go.Op.nilCheck (Go.Operand.tmp 46), type := 0, pos := "constraints.go:439", after := #[{ on := 0, ground := Go.Ground.data }], guard := none }) (v := ?_) rfl (by kernel_rfl) (by kernel_rfl) (by kernel_rfl) (fun _ _ _ h => h) (Or.inl ⟨by rfl, ?_⟩) (by assumption) ?_
   rotate_left
   ·
    (intro wx hSw; (try dsimp only at hSw); go_simp; first | done | with_reducible rfl)
   try simp only [Act.put, putA, putZ, putS]
   refine wpAnyH_take (i := 2) (oi := { dst := some 48, op := Go.Op.load 97 (Go.Operand.tmp 47), type := 97, pos := "constraints.go:439", after := #[{ on := 1, ground := Go.Ground.data }], guard := none }) (v := ?_) rfl (by kernel_rfl) (by kernel_rfl) (by kernel_rfl) (fun _ _ _ h => h) (Or.inl ⟨by rfl, ?_⟩) (by assumption) ?_
   rotate_left
   ·
    (intro wx hSw; (try dsimp only at hSw); go_simp; first | done | with_reducible rfl)
   try simp only [Act.put, putA, putZ, putS]
   refine wpAnyH_take (i := 4) (oi := { dst := some 50, op := Go.Op.move (Go.Operand.tmp 1), type := 133, pos := "constraints.go:439", after := #[], guard := none }) (v := ?_) rfl (by kernel_rfl) (by kernel_rfl) (by kernel_rfl) (fun _ _ _ h => h) (Or.inl ⟨by rfl, ?_⟩) (by assumption) ?_
   rotate_left
   ·
    (intro wx hSw; (try dsimp only at hSw); go_simp; first | done | with_reducible rfl)
   try simp only [Act.put, putA, putZ, putS]
   refine wpAnyH_take (i := 5) (oi := { dst := some 51, op := Go.Op.nilCheck (Go.Operand.tmp 50), type := 0, pos := "constraints.go:439", after := #[{ on := 4, ground := Go.Ground.data }], guard := none }) (v := ?_) rfl (by kernel_rfl) (by kernel_rfl) (by kernel_rfl) (fun _ _ _ h => h) (Or.inl ⟨by rfl, ?_⟩) (by assumption) ?_
   rotate_left
   ·
    (intro wx hSw; (try dsimp only at hSw); go_simp; first | done | with_reducible rfl)
   try simp only [Act.put, putA, putZ, putS]
   refine wpAnyH_take (i := 6) (oi := { dst := some 52, op := Go.Op.fieldAddr 155 (Go.Operand.tmp 51) 0, type := 0, pos := "constraints.go:439", after := #[{ on := 5, ground := Go.Ground.data }], guard := none }) (v := ?_) rfl (by kernel_rfl) (by kernel_rfl) (by kernel_rfl) (fun _ _ _ h => h) (Or.inl ⟨by rfl, ?_⟩) (by assumption) ?_
   rotate_left
   ·
    (intro wx hSw; (try dsimp only at hSw); go_simp; first | done | with_reducible rfl)
   try simp only [Act.put, putA, putZ, putS]
   refine wpAnyH_take (i := 7) (oi := { dst := some 53, op := Go.Op.load 79 (Go.Operand.tmp 52), type := 79, pos := "constraints.go:439", after := #[{ on := 6, ground := Go.Ground.data }], guard := none }) (v := ?_) rfl (by kernel_rfl) (by kernel_rfl) (by kernel_rfl) (fun _ _ _ h => h) (Or.inl ⟨by rfl, ?_⟩) (by assumption) ?_
   rotate_left
   ·
    (intro wx hSw; (try dsimp only at hSw); go_simp; first | done | with_reducible rfl)
   try simp only [Act.put, putA, putZ, putS]
   refine wpAnyH_take (i := 8) (oi := { dst := some 54, op := Go.Op.nilCheck (Go.Operand.tmp 53), type := 0, pos := "constraints.go:439", after := #[{ on := 7, ground := Go.Ground.data }], guard := none }) (v := ?_) rfl (by kernel_rfl) (by kernel_rfl) (by kernel_rfl) (fun _ _ _ h => h) (Or.inl ⟨by rfl, ?_⟩) (by assumption) ?_
   rotate_left
   ·
    (intro wx hSw; (try dsimp only at hSw); go_simp; first | done | with_reducible rfl)
   try simp only [Act.put, putA, putZ, putS]
   refine wpAnyH_take (i := 9) (oi := { dst := some 55, op := Go.Op.load 97 (Go.Operand.tmp 54), type := 97, pos := "constraints.go:439", after := #[{ on := 8, ground := Go.Ground.data }], guard := none }) (v := ?_) rfl (by kernel_rfl) (by kernel_rfl) (by kernel_rfl) (fun _ _ _ h => h) (Or.inl ⟨by rfl, ?_⟩) (by assumption) ?_
   rotate_left
   ·
    (intro wx hSw; (try dsimp only at hSw); go_simp; first | done | with_reducible rfl)
   try simp only [Act.put, putA, putZ, putS]
   refine wpAnyH_ready (rs := [3]) (by kernel_rfl) (by simp) ?_
   refine AllReadyH.cons (o := { dst := some 49, op := Go.Op.call { callee := Go.Callee.value (Go.Operand.func 132), args := #[Go.Operand.tmp 48], argTypes := #[79] }, type := 27, pos := "constraints.go:439", after := #[{ on := 2, ground := Go.Ground.data }], guard := none }) rfl (fun K hK => ?_) AllReadyH.nil
   go_simp
   (first | (go_at_call 132; (with_reducible refine (Major_any _ _ _ _ _ _ _).mono ?_); rintro e wn ⟨rfl, hb⟩) | (go_at_call 133; (with_reducible refine (Minor_any _ _ _ _ _ _ _).mono ?_); rintro e wn ⟨rfl, hb⟩) | (go_at_call 134; (with_reducible refine (Patch_any _ _ _ _ _ _ _).mono ?_); rintro e wn ⟨rfl, hb⟩) | (go_at_call 135; (with_reducible refine (Prerelease_any _ _ _ _ _ _ _).mono ?_); rintro e wn ⟨rfl, hb⟩))
   refine hK.out _ _ ?_ (fun hHeld => ?_)
   ·
    exact keepK ha hp hq (by assumption) (by assumption)
   clear hK K
   try simp only [Act.put, putA, putZ, putS]
   refine wpAnyH_ready (rs := [10]) (by kernel_rfl) (by simp) ?_
   refine AllReadyH.cons (o := { dst := some 56, op := Go.Op.call { callee := Go.Callee.value (Go.Operand.func 132), args := #[Go.Operand.tmp 55], argTypes := #[79] }, type := 27, pos := "constraints.go:439", after := #[{ on := 9, ground := Go.Ground.data }, { on := 3, ground := Go.Ground.chain }], guard := none }) rfl (fun K hK => ?_) AllReadyH.nil
   go_simp
   (first | (go_at_call 132; (with_reducible refine (Major_any _ _ _ _ _ _ _).mono ?_); rintro e wn ⟨rfl, hb⟩) | (go_at_call 133; (with_reducible refine (Minor_any _ _ _ _ _ _ _).mono ?_); rintro e wn ⟨rfl, hb⟩) | (go_at_call 134; (with_reducible refine (Patch_any _ _ _ _ _ _ _).mono ?_); rintro e wn ⟨rfl, hb⟩) | (go_at_call 135; (with_reducible refine (Prerelease_any _ _ _ _ _ _ _).mono ?_); rintro e wn ⟨rfl, hb⟩))
   refine hK.out _ _ ?_ (fun hHeld => ?_)
   ·
    exact keepK ha hp hq (by assumption) (by assumption)
   clear hK K
   try simp only [Act.put, putA, putZ, putS]
   refine wpAnyH_take (i := 11) (oi := { dst := some 57, op := Go.Op.binOp Go.BinOp.eql 27 (Go.Operand.tmp 49) (Go.Operand.tmp 56) 27, type := 4, pos := "constraints.go:439", after := #[{ on := 3, ground := Go.Ground.data }, { on := 10, ground := Go.Ground.data }], guard := none }) (v := ?_) rfl (by kernel_rfl) (by kernel_rfl) (by kernel_rfl) (fun _ _ _ h => h) (Or.inl ⟨by rfl, ?_⟩) (by assumption) ?_
   rotate_left
   ·
    (intro wx hSw; (try dsimp only at hSw); go_simp; first | done | with_reducible rfl)
   try simp only [Act.put, putA, putZ, putS]
   refine wpAnyH_take (i := 12) (oi := { dst := some 58, op := Go.Op.move (Go.Operand.tmp 57), type := 4, pos := "constraints.go:439", after := #[{ on := 11, ground := Go.Ground.data }, { on := 10, ground := Go.Ground.chain }], guard := none }) (v := ?_) rfl (by kernel_rfl) (by kernel_rfl) (by kernel_rfl) (fun _ _ _ h => h) (Or.inl ⟨by rfl, ?_⟩) (by assumption) ?_
   rotate_left
   ·
    (intro wx hSw; (try dsimp only at hSw); go_simp; first | done | with_reducible rfl)
   try simp only [Act.put, putA, putZ, putS]
   refine wpAnyH_take (i := 13) (oi := { dst := some 59, op := Go.Op.move (Go.Operand.tmp 0), type := 79, pos := "constraints.go:439", after := #[{ on := 12, ground := Go.Ground.guard }], guard := some (12, true) }) (v := undef) rfl (by kernel_rfl) (by kernel_rfl) (by kernel_rfl) (fun _ _ _ h => h) (Or.inr ⟨by rfl, rfl⟩) (by assumption) ?_
   try simp only [Act.put, putA, putZ, putS]
   refine wpAnyH_take (i := 14) (oi := { dst := some 60, op := Go.Op.nilCheck (Go.Operand.tmp 59), type := 0, pos := "constraints.go:439", after := #[{ on := 13, ground := Go.Ground.data }, { on := 12, ground := Go.Ground.guard }], guard := some (12, true) }) (v := undef) rfl (by kernel_rfl) (by kernel_rfl) (by kernel_rfl) (fun _ _ _ h => h) (Or.inr ⟨by rfl, rfl⟩) (by assumption) ?_
   try simp only [Act.put, putA, putZ, putS]
   refine wpAnyH_take (i := 15) (oi := { dst := some 61, op := Go.Op.load 97 (Go.Operand.tmp 60), type := 97, pos := "constraints.go:439", after := #[{ on := 14, ground := Go.Ground.data }, { on := 12, ground := Go.Ground.guard }], guard := some (12, true) }) (v := undef) rfl (by kernel_rfl) (by kernel_rfl) (by kernel_rfl) (fun _ _ _ h => h) (Or.inr ⟨by rfl, rfl⟩) (by assumption) ?_
   try simp only [Act.put, putA, putZ, putS]
   refine wpAnyH_take (i := 16) (oi := { dst := some 62, op := Go.Op.call { callee := Go.Callee.value (Go.Operand.func 133), args := #[Go.Operand.tmp 61], argTypes := #[79] }, type := 27, pos := "constraints.go:439", after := #[{ on := 15, ground := Go.Ground.data }, { on := 12, ground := Go.Ground.chain }, { on := 12, ground := Go.Ground.guard }], guard := some (12, true) }) (v := undef) rfl (by kernel_rfl) (by kernel_rfl) (by kernel_rfl) (fun _ _ _ h => h) (Or.inr ⟨by rfl, rfl⟩) (by assumption) ?_
   try simp only [Act.put, putA, putZ, putS]
   refine wpAnyH_take (i := 17) (oi := { dst := some 63, op := Go.Op.move (Go.Operand.tmp 1), type := 133, pos := "constraints.go:439", after := #[{ on := 12, ground := Go.Ground.guard }], guard := some (12, true) }) (v := undef) rfl (by kernel_rfl) (by kernel_rfl) (by kernel_rfl) (fun _ _ _ h => h) (Or.inr ⟨by rfl, rfl⟩) (by assumption) ?_
   try simp only [Act.put, putA, putZ, putS]
   refine wpAnyH_take (i := 18) (oi := { dst := some 64, op := Go.Op.nilCheck (Go.Operand.tmp 63), type := 0, pos := "constraints.go:439", after := #[{ on := 17, ground := Go.Ground.data }, { on := 12, ground := Go.Ground.guard }], guard := some (12, true) }) (v := undef) rfl (by kernel_rfl) (by kernel_rfl) (by kernel_rfl) (fun _ _ _ h => h) (Or.inr ⟨by rfl, rfl⟩) (by assumption) ?_
   try simp only [Act.put, putA, putZ, putS]
   refine wpAnyH_take (i := 19) (oi := { dst := some 65, op := Go.Op.fieldAddr 155 (Go.Operand.tmp 64) 0, type := 0, pos := "constraints.go:439", after := #[{ on := 18, ground := Go.Ground.data }, { on := 12, ground := Go.Ground.guard }], guard := some (12, true) }) (v := undef) rfl (by kernel_rfl) (by kernel_rfl) (by kernel_rfl) (fun _ _ _ h => h) (Or.inr ⟨by rfl, rfl⟩) (by assumption) ?_
   try simp only [Act.put, putA, putZ, putS]
   refine wpAnyH_take (i := 20) (oi := { dst := some 66, op := Go.Op.load 79 (Go.Operand.tmp 65), type := 79, pos := "constraints.go:439", after := #[{ on := 19, ground := Go.Ground.data }, { on := 12, ground := Go.Ground.guard }], guard := some (12, true) }) (v := undef) rfl (by kernel_rfl) (by kernel_rfl) (by kernel_rfl) (fun _ _ _ h => h) (Or.inr ⟨by rfl, rfl⟩) (by assumption) ?_
   try simp only [Act.put, putA, putZ, putS]
   refine wpAnyH_take (i := 21) (oi := { dst := some 67, op := Go.Op.nilCheck (Go.Operand.tmp 66), type := 0, pos := "constraints.go:439", after := #[{ on := 20, ground := Go.Ground.data }, { on := 12, ground := Go.Ground.guard }], guard := some (12, true) }) (v := undef) rfl (by kernel_rfl) (by kernel_rfl) (by kernel_rfl) (fun _ _ _ h => h) (Or.inr ⟨by rfl, rfl⟩) (by assumption) ?_
   try simp only [Act.put, putA, putZ, putS]
   refine wpAnyH_take (i := 22) (oi := { dst := some 68, op := Go.Op.load 97 (Go.Operand.tmp 67), type := 97, pos := "constraints.go:439", after := #[{ on := 21, ground := Go.Ground.data }, { on := 12, ground := Go.Ground.guard }], guard := some (12, true) }) (v := undef) rfl (by kernel_rfl) (by kernel_rfl) (by kernel_rfl) (fun _ _ _ h => h) (Or.inr ⟨by rfl, rfl⟩) (by assumption) ?_
   try simp only [Act.put, putA, putZ, putS]
   refine wpAnyH_take (i := 23) (oi := { dst := some 69, op := Go.Op.call { callee := Go.Callee.value (Go.Operand.func 133), args := #[Go.Operand.tmp 68], argTypes := #[79] }, type := 27, pos := "constraints.go:439", after := #[{ on := 22, ground := Go.Ground.data }, { on := 16, ground := Go.Ground.chain }, { on := 12, ground := Go.Ground.guard }], guard := some (12, true) }) (v := undef) rfl (by kernel_rfl) (by kernel_rfl) (by kernel_rfl) (fun _ _ _ h => h) (Or.inr ⟨by rfl, rfl⟩) (by assumption) ?_
   try simp only [Act.put, putA, putZ, putS]
   refine wpAnyH_take (i := 24) (oi := { dst := some 70, op := Go.Op.binOp Go.BinOp.gtr 27 (Go.Operand.tmp 62) (Go.Operand.tmp 69) 27, type := 4, pos := "constraints.go:439", after := #[{ on := 16, ground := Go.Ground.data }, { on := 23, ground := Go.Ground.data }, { on := 12, ground := Go.Ground.guard }], guard := some (12, true) }) (v := undef) rfl (by kernel_rfl) (by kernel_rfl) (by kernel_rfl) (fun _ _ _ h => h) (Or.inr ⟨by rfl, rfl⟩) (by assumption) ?_
   try simp only [Act.put, putA, putZ, putS]
   refine wpAnyH_take (i := 25) (oi := { dst := some 71, op := Go.Op.pick (Go.Operand.tmp 58) (Go.Operand.tmp 70) (Go.Operand.const (Go.Value.bool false)), type := 4, pos := "constraints.go:439", after := #[{ on := 12, ground := Go.Ground.data }, { on := 24, ground := Go.Ground.data }], guard := none }) (v := ?_) rfl (by kernel_rfl) (by kernel_rfl) (by kernel_rfl) (fun _ _ _ h => h) (Or.inl ⟨by rfl, ?_⟩) (by assumption) ?_
   rotate_left
   ·
    (intro wx hSw; (try dsimp only at hSw); go_simp; first | done | with_reducible rfl)
   try simp only [Act.put, putA, putZ, putS]
   refine wpAnyH_take (i := 26) (oi := { dst := some 72, op := Go.Op.move (Go.Operand.tmp 71), type := 4, pos := "constraints.go:439", after := #[{ on := 25, ground := Go.Ground.data }, { on := 23, ground := Go.Ground.chain }], guard := none }) (v := ?_) rfl (by kernel_rfl) (by kernel_rfl) (by kernel_rfl) (fun _ _ _ h => h) (Or.inl ⟨by rfl, ?_⟩) (by assumption) ?_
   rotate_left
   ·
    (intro wx hSw; (try dsimp only at hSw); go_simp; first | done | with_reducible rfl)
   try simp only [Act.put, putA, putZ, putS]
   refine wpAnyH_take (i := 27) (oi := { dst := some 73, op := Go.Op.move (Go.Operand.tmp 1), type := 133, pos := "constraints.go:439", after := #[{ on := 26, ground := Go.Ground.guard }], guard := some (26, true) }) (v := undef) rfl (by kernel_rfl) (by kernel_rfl) (by kernel_rfl) (fun _ _ _ h => h) (Or.inr ⟨by rfl, rfl⟩) (by assumption) ?_
   try simp only [Act.put, putA, putZ, putS]
   refine wpAnyH_take (i := 28) (oi := { dst := some 74, op := Go.Op.nilCheck (Go.Operand.tmp 73), type := 0, pos := "constraints.go:439", after := #[{ on := 27, ground := Go.Ground.data }, { on := 26, ground := Go.Ground.guard }], guard := some (26, true) }) (v := undef) rfl (by kernel_rfl) (by kernel_rfl) (by kernel_rfl) (fun _ _ _ h => h) (Or.inr ⟨by rfl, rfl⟩) (by assumption) ?_
   try simp only [Act.put, putA, putZ, putS]
   refine wpAnyH_take (i := 29) (oi := { dst := some 75, op := Go.Op.fieldAddr 155 (Go.Operand.tmp 74) 3, type := 0, pos := "constraints.go:439", after := #[{ on := 28, ground := Go.Ground.data }, { on := 26, ground := Go.Ground.guard }], guard := some (26, true) }) (v := undef) rfl (by kernel_rfl) (by kernel_rfl) (by kernel_rfl) (fun _ _ _ h => h) (Or.inr ⟨by rfl, rfl⟩) (by assumption) ?_
   try simp only [Act.put, putA, putZ, putS]
   refine wpAnyH_take (i := 30) (oi := { dst := some 76, op := Go.Op.load 4 (Go.Operand.tmp 75), type := 4, pos := "constraints.go:439", after := #[{ on := 29, ground := Go.Ground.data }, { on := 26, ground := Go.Ground.guard }], guard := some (26, true) }) (v := undef) rfl (by kernel_rfl) (by kernel_rfl) (by kernel_rfl) (fun _ _ _ h => h) (Or.inr ⟨by rfl, rfl⟩) (by assumption) ?_
   try simp only [Act.put, putA, putZ, putS]
   refine wpAnyH_take (i := 31) (oi := { dst := some 77, op := Go.Op.unOp Go.UnOp.not 4 (Go.Operand.tmp 76), type := 4, pos := "constraints.go:439", after := #[{ on := 30, ground := Go.Ground.data }, { on := 26, ground := Go.Ground.guard }], guard := some (26, true) }) (v := undef) rfl (by kernel_rfl) (by kernel_rfl) (by kernel_rfl) (fun _ _ _ h => h) (Or.inr ⟨by rfl, rfl⟩) (by assumption) ?_
   try simp only [Act.put, putA, putZ, putS]
   refine wpAnyH_take (i := 32) (oi := { dst := some 78, op := Go.Op.pick (Go.Operand.tmp 72) (Go.Operand.tmp 77) (Go.Operand.const (Go.Value.bool false)), type := 4, pos := "constraints.go:439", after := #[{ on := 26, ground := Go.Ground.data }, { on := 31, ground := Go.Ground.data }], guard := none }) (v := ?_) rfl (by kernel_rfl) (by kernel_rfl) (by kernel_rfl) (fun _ _ _ h => h) (Or.inl ⟨by rfl, ?_⟩) (by assumption) ?_
   rotate_left
   ·
    (intro wx hSw; (try dsimp only at hSw); go_simp; first | done | with_reducible rfl)
   try simp only [Act.put, putA, putZ, putS]
   refine wpAnyH_done (by kernel_rfl) ?_ _
   go_wp2_with fail
   go_meet
   case rel => exact ⟨by first | rfl | (rw [h2]; rfl), Aside0.mk (by assumption)⟩
  case true =>
   cases h3 : decide (m2 < m1)
   case false =>
    refine wp_region_held_drew (S := (fun w' => w'.cell? ⟨a, 0, none⟩ = some (.int .u64 M1) ∧ w'.cell? ⟨a, 1, none⟩ = some (.int .u64 m1) ∧ w'.cell? ⟨a, 2, none⟩ = some (.int .u64 t1) ∧ w'.cell? ⟨a, 3, none⟩ = some (.string u1) ∧ w'.cell? ⟨a, 4, none⟩ = some (.string v1) ∧ w'.cell? ⟨a, 5, none⟩ = some (.string ⟨#[]⟩) ∧ w'.cell? ⟨p, 0, none⟩ = some (.int .u64 M2) ∧ w'.cell? ⟨p, 1, none⟩ = some (.int .u64 m2) ∧ w'.cell? ⟨p, 2, none⟩ = some (.int .u64 t2) ∧ w'.cell? ⟨p, 3, none⟩ = some (.string u2) ∧ w'.cell? ⟨p, 4, none⟩ = some (.string v2) ∧ w'.cell? ⟨p, 5, none⟩ = some (.string ⟨#[]⟩) ∧ w'.cell? ⟨q, 0, none⟩ = some (.pointer (some ⟨p, 0, none⟩)) ∧ w'.cell? ⟨q, 1, none⟩ = some (.string ⟨#[]⟩) ∧ w'.cell? ⟨q, 2, none⟩ = some (.string s) ∧ w'.cell? ⟨q, 3, none⟩ = some (.bool md) ∧ w'.cell? ⟨q, 4, none⟩ = some (.bool d) ∧ w'.cell? ⟨q, 5, none⟩ = some (.bool pd) ∧ Below w.heap.size w w')) (by kernel_rfl) ?_ (fun hHeld => ?_)
    ·
     exact keepKd (by assumption)
    refine wpAnyH_take (i := 0) (oi := { dst := some 46, op := Go.Op.move (Go.Operand.tmp 0), type := 79, pos := "constraints.go:439", after := #[], guard := none }) (v := ?_) rfl (by kernel_rfl) (by kernel_rfl) (by kernel_rfl) (fun _ _ _ h => h) (Or.inl ⟨by rfl, ?_⟩) (by assumption) ?_
    rotate_left
    ·
     (intro wx hSw; (try dsimp only at hSw); go_simp; first | done | with_reducible rfl)
    try simp only [Act.put, putA, putZ, putS]
    refine wpAnyH_take (i := 1) (oi := { dst := some 47, op := Go.Op.nilCheck (Go.Operand.tmp 46), type := 0, pos := "constraints.go:439", after := #[{ on := 0, ground := Go.Ground.data }], guard := none }) (v := ?_) rfl (by kernel_rfl) (by kernel_rfl) (by kernel_rfl) (fun _ _ _ h => h) (Or.inl ⟨by rfl, ?_⟩) (by assumption) ?_
    rotate_left
    ·
     (intro wx hSw; (try dsimp only at hSw); go_simp; first | done | with_reducible rfl)
    try simp only [Act.put, putA, putZ, putS]
    refine wpAnyH_take (i := 2) (oi := { dst := some 48, op := Go.Op.load 97 (Go.Operand.tmp 47), type := 97, pos := "constraints.go:439", after := #[{ on := 1, ground := Go.Ground.data }], guard := none }) (v := ?_) rfl (by kernel_rfl) (by kernel_rfl) (by kernel_rfl) (fun _ _ _ h => h) (Or.inl ⟨by rfl, ?_⟩) (by assumption) ?_
    rotate_left
    ·
     (intro wx hSw; (try dsimp only at hSw); go_simp; first | done | with_reducible rfl)
    try simp only [Act.put, putA, putZ, putS]
    refine wpAnyH_take (i := 4) (oi := { dst := some 50, op := Go.Op.move (Go.Operand.tmp 1), type := 133, pos := "constraints.go:439", after := #[], guard := none }) (v := ?_) rfl (by kernel_rfl) (by kernel_rfl) (by kernel_rfl) (fun _ _ _ h => h) (Or.inl ⟨by rfl, ?_⟩) (by assumption) ?_
    rotate_left
    ·
     (intro wx hSw; (try dsimp only at hSw); go_simp; first | done | with_reducible rfl)
    try simp only [Act.put, putA, putZ, putS]
    refine wpAnyH_take (i := 5) (oi := { dst := some 51, op := Go.Op.nilCheck (Go.Operand.tmp 50), type := 0, pos := "constraints.go:439", after := #[{ on := 4, ground := Go.Ground.data }], guard := none }) (v := ?_) rfl (by kernel_rfl) (by kernel_rfl) (by kernel_rfl) (fun _ _ _ h => h) (Or.inl ⟨by rfl, ?_⟩) (by assumption) ?_
    rotate_left
    ·
     (intro wx hSw; (try dsimp only at hSw); go_simp; first | done | with_reducible rfl)
    try simp only [Act.put, putA, putZ, putS]
    refine wpAnyH_take (i := 6) (oi := { dst := some 52, op := Go.Op.fieldAddr 155 (Go.Operand.tmp 51) 0, type := 0, pos := "constraints.go:439", after := #[{ on := 5, ground := Go.Ground.data }], guard := none }) (v := ?_) rfl (by kernel_rfl) (by kernel_rfl) (by kernel_rfl) (fun _ _ _ h => h) (Or.inl ⟨by rfl, ?_⟩) (by assumption) ?_
    rotate_left
    ·
     (intro wx hSw; (try dsimp only at hSw); go_simp; first | done | with_reducible rfl)
    try simp only [Act.put, putA, putZ, putS]
    refine wpAnyH_take (i := 7) (oi := { dst := some 53, op := Go.Op.load 79 (Go.Operand.tmp 52), type := 79, pos := "constraints.go:439", after := #[{ on := 6, ground := Go.Ground.data }], guard := none }) (v := ?_) rfl (by kernel_rfl) (by kernel_rfl) (by kernel_rfl) (fun _ _ _ h => h) (Or.inl ⟨by rfl, ?_⟩) (by assumption) ?_
    rotate_left
    ·
     (intro wx hSw; (try dsimp only at hSw); go_simp; first | done | with_reducible rfl)
    try simp only [Act.put, putA, putZ, putS]
    refine wpAnyH_take (i := 8) (oi := { dst := some 54, op := Go.Op.nilCheck (Go.Operand.tmp 53), type := 0, pos := "constraints.go:439", after := #[{ on := 7, ground := Go.Ground.data }], guard := none }) (v := ?_) rfl (by kernel_rfl) (by kernel_rfl) (by kernel_rfl) (fun _ _ _ h => h) (Or.inl ⟨by rfl, ?_⟩) (by assumption) ?_
    rotate_left
    ·
     (intro wx hSw; (try dsimp only at hSw); go_simp; first | done | with_reducible rfl)
    try simp only [Act.put, putA, putZ, putS]
    refine wpAnyH_take (i := 9) (oi := { dst := some 55, op := Go.Op.load 97 (Go.Operand.tmp 54), type := 97, pos := "constraints.go:439", after := #[{ on := 8, ground := Go.Ground.data }], guard := none }) (v := ?_) rfl (by kernel_rfl) (by kernel_rfl) (by kernel_rfl) (fun _ _ _ h => h) (Or.inl ⟨by rfl, ?_⟩) (by assumption) ?_
    rotate_left
    ·
     (intro wx hSw; (try dsimp only at hSw); go_simp; first | done | with_reducible rfl)
    try simp only [Act.put, putA, putZ, putS]
    refine wpAnyH_ready (rs := [3]) (by kernel_rfl) (by simp) ?_
    refine AllReadyH.cons (o := { dst := some 49, op := Go.Op.call { callee := Go.Callee.value (Go.Operand.func 132), args := #[Go.Operand.tmp 48], argTypes := #[79] }, type := 27, pos := "constraints.go:439", after := #[{ on := 2, ground := Go.Ground.data }], guard := none }) rfl (fun K hK => ?_) AllReadyH.nil
    go_simp
    (first | (go_at_call 132; (with_reducible refine (Major_any _ _ _ _ _ _ _).mono ?_); rintro e wn ⟨rfl, hb⟩) | (go_at_call 133; (with_reducible refine (Minor_any _ _ _ _ _ _ _).mono ?_); rintro e wn ⟨rfl, hb⟩) | (go_at_call 134; (with_reducible refine (Patch_any _ _ _ _ _ _ _).mono ?_); rintro e wn ⟨rfl, hb⟩) | (go_at_call 135; (with_reducible refine (Prerelease_any _ _ _ _ _ _ _).mono ?_); rintro e wn ⟨rfl, hb⟩))
    refine hK.out _ _ ?_ (fun hHeld => ?_)
    ·
     exact keepK ha hp hq (by assumption) (by assumption)
    clear hK K
    try simp only [Act.put, putA, putZ, putS]
    refine wpAnyH_ready (rs := [10]) (by kernel_rfl) (by simp) ?_
    refine AllReadyH.cons (o := { dst := some 56, op := Go.Op.call { callee := Go.Callee.value (Go.Operand.func 132), args := #[Go.Operand.tmp 55], argTypes := #[79] }, type := 27, pos := "constraints.go:439", after := #[{ on := 9, ground := Go.Ground.data }, { on := 3, ground := Go.Ground.chain }], guard := none }) rfl (fun K hK => ?_) AllReadyH.nil
    go_simp
    (first | (go_at_call 132; (with_reducible refine (Major_any _ _ _ _ _ _ _).mono ?_); rintro e wn ⟨rfl, hb⟩) | (go_at_call 133; (with_reducible refine (Minor_any _ _ _ _ _ _ _).mono ?_); rintro e wn ⟨rfl, hb⟩) | (go_at_call 134; (with_reducible refine (Patch_any _ _ _ _ _ _ _).mono ?_); rintro e wn ⟨rfl, hb⟩) | (go_at_call 135; (with_reducible refine (Prerelease_any _ _ _ _ _ _ _).mono ?_); rintro e wn ⟨rfl, hb⟩))
    refine hK.out _ _ ?_ (fun hHeld => ?_)
    ·
     exact keepK ha hp hq (by assumption) (by assumption)
    clear hK K
    try simp only [Act.put, putA, putZ, putS]
    refine wpAnyH_take (i := 11) (oi := { dst := some 57, op := Go.Op.binOp Go.BinOp.eql 27 (Go.Operand.tmp 49) (Go.Operand.tmp 56) 27, type := 4, pos := "constraints.go:439", after := #[{ on := 3, ground := Go.Ground.data }, { on := 10, ground := Go.Ground.data }], guard := none }) (v := ?_) rfl (by kernel_rfl) (by kernel_rfl) (by kernel_rfl) (fun _ _ _ h => h) (Or.inl ⟨by rfl, ?_⟩) (by assumption) ?_
    rotate_left
    ·
     (intro wx hSw; (try dsimp only at hSw); go_simp; first | done | with_reducible rfl)
    try simp only [Act.put, putA, putZ, putS]
    refine wpAnyH_take (i := 12) (oi := { dst := some 58, op := Go.Op.move (Go.Operand.tmp 57), type := 4, pos := "constraints.go:439", after := #[{ on := 11, ground := Go.Ground.data }, { on := 10, ground := Go.Ground.chain }], guard := none }) (v := ?_) rfl (by kernel_rfl) (by kernel_rfl) (by kernel_rfl) (fun _ _ _ h => h) (Or.inl ⟨by rfl, ?_⟩) (by assumption) ?_
    rotate_left
    ·
     (intro wx hSw; (try dsimp only at hSw); go_simp; first | done | with_reducible rfl)
    try simp only [Act.put, putA, putZ, putS]
    refine wpAnyH_take (i := 13) (oi := { dst := some 59, op := Go.Op.move (Go.Operand.tmp 0), type := 79, pos := "constraints.go:439", after := #[{ on := 12, ground := Go.Ground.guard }], guard := some (12, true) }) (v := ?_) rfl (by kernel_rfl) (by kernel_rfl) (by kernel_rfl) (fun _ _ _ h => h) (Or.inl ⟨by rfl, ?_⟩) (by assumption) ?_
    rotate_left
    ·
     (intro wx hSw; (try dsimp only at hSw); go_simp; first | done | with_reducible rfl)
    try simp only [Act.put, putA, putZ, putS]
    refine wpAnyH_take (i := 14) (oi := { dst := some 60, op := Go.Op.nilCheck (Go.Operand.tmp 59), type := 0, pos := "constraints.go:439", after := #[{ on := 13, ground := Go.Ground.data }, { on := 12, ground := Go.Ground.guard }], guard := some (12, true) }) (v := ?_) rfl (by kernel_rfl) (by kernel_rfl) (by kernel_rfl) (fun _ _ _ h => h) (Or.inl ⟨by rfl, ?_⟩) (by assumption) ?_
    rotate_left
    ·
     (intro wx hSw; (try dsimp only at hSw); go_simp; first | done | with_reducible rfl)
    try simp only [Act.put, putA, putZ, putS]
    refine wpAnyH_take (i := 15) (oi := { dst := some 61, op := Go.Op.load 97 (Go.Operand.tmp 60), type := 97, pos := "constraints.go:439", after := #[{ on := 14, ground := Go.Ground.data }, { on := 12, ground := Go.Ground.guard }], guard := some (12, true) }) (v := ?_) rfl (by kernel_rfl) (by kernel_rfl) (by kernel_rfl) (fun _ _ _ h => h) (Or.inl ⟨by rfl, ?_⟩) (by assumption) ?_
    rotate_left
    ·
     (intro wx hSw; (try dsimp only at hSw); go_simp; first | done | with_reducible rfl)
    try simp only [Act.put, putA, putZ, putS]
    refine wpAnyH_take (i := 17) (oi := { dst := some 63, op := Go.Op.move (Go.Operand.tmp 1), type := 133, pos := "constraints.go:439", after := #[{ on := 12, ground := Go.Ground.guard }], guard := some (12, true) }) (v := ?_) rfl (by kernel_rfl) (by kernel_rfl) (by kernel_rfl) (fun _ _ _ h => h) (Or.inl ⟨by rfl, ?_⟩) (by assumption) ?_
    rotate_left
    ·
     (intro wx hSw; (try dsimp only at hSw); go_simp; first | done | with_reducible rfl)
    try simp only [Act.put, putA, putZ, putS]
    refine wpAnyH_take (i := 18) (oi := { dst := some 64, op := Go.Op.nilCheck (Go.Operand.tmp 63), type := 0, pos := "constraints.go:439", after := #[{ on := 17, ground := Go.Ground.data }, { on := 12, ground := Go.Ground.guard }], guard := some (12, true) }) (v := ?_) rfl (by kernel_rfl) (by kernel_rfl) (by kernel_rfl) (fun _ _ _ h => h) (Or.inl ⟨by rfl, ?_⟩) (by assumption) ?_
    rotate_left
    ·
     (intro wx hSw; (try dsimp only at hSw); go_simp; first | done | with_reducible rfl)
    try simp only [Act.put, putA, putZ, putS]
    refine wpAnyH_take (i := 19) (oi := { dst := some 65, op := Go.Op.fieldAddr 155 (Go.Operand.tmp 64) 0, type := 0, pos := "constraints.go:439", after := #[{ on := 18, ground := Go.Ground.data }, { on := 12, ground := Go.Ground.guard }], guard := some (12, true) }) (v := ?_) rfl (by kernel_rfl) (by kernel_rfl) (by kernel_rfl) (fun _ _ _ h => h) (Or.inl ⟨by rfl, ?_⟩) (by assumption) ?_
    rotate_left
    ·
     (intro wx hSw; (try dsimp only at hSw); go_simp; first | done | with_reducible rfl)
    try simp only [Act.put, putA, putZ, putS]
    refine wpAnyH_take (i := 20) (oi := { dst := some 66, op := Go.Op.load 79 (Go.Operand.tmp 65), type := 79, pos := "constraints.go:439", after := #[{ on := 19, ground := Go.Ground.data }, { on := 12, ground := Go.Ground.guard }], guard := some (12, true) }) (v := ?_) rfl (by kernel_rfl) (by kernel_rfl) (by kernel_rfl) (fun _ _ _ h => h) (Or.inl ⟨by rfl, ?_⟩) (by assumption) ?_
    rotate_left
    ·
     (intro wx hSw; (try dsimp only at hSw); go_simp; first | done | with_reducible rfl)
    try simp only [Act.put, putA, putZ, putS]
    refine wpAnyH_take (i := 21) (oi := { dst := some 67, op := Go.Op.nilCheck (Go.Operand.tmp 66), type := 0, pos := "constraints.go:439", after := #[{ on := 20, ground := Go.Ground.data }, { on := 12, ground := Go.Ground.guard }], guard := some (12, true) }) (v := ?_) rfl (by kernel_rfl) (by kernel_rfl) (by kernel_rfl) (fun _ _ _ h => h) (Or.inl ⟨by rfl, ?_⟩) (by assumption) ?_
    rotate_left
    ·
     (intro wx hSw; (try dsimp only at hSw); go_simp; first | done | with_reducible rfl)
    try simp only [Act.put, putA, putZ, putS]
    refine wpAnyH_take (i := 22) (oi := { dst := some 68, op := Go.Op.load 97 (Go.Operand.tmp 67), type := 97, pos := "constraints.go:439", after := #[{ on := 21, ground := Go.Ground.data }, { on := 12, ground := Go.Ground.guard }], guard := some (12, true) }) (v := ?_) rfl (by kernel_rfl) (by kernel_rfl) (by kernel_rfl) (fun _ _ _ h => h) (Or.inl ⟨by rfl, ?_⟩) (by assumption) ?_
    rotate_left
    ·
     (intro wx hSw; (try dsimp only at hSw); go_simp; first | done | with_reducible rfl)
    try simp only [Act.put, putA, putZ, putS]
    refine wpAnyH_ready (rs := [16]) (by kernel_rfl) (by simp) ?_
    refine AllReadyH.cons (o := { dst := some 62, op := Go.Op.call { callee := Go.Callee.value (Go.Operand.func 133), args := #[Go.Operand.tmp 61], argTypes := #[79] }, type := 27, pos := "constraints.go:439", after := #[{ on := 15, ground := Go.Ground.data }, { on := 12, ground := Go.Ground.chain }, { on := 12, ground := Go.Ground.guard }], guard := some (12, true) }) rfl (fun K hK => ?_) AllReadyH.nil
    go_simp
    (first | (go_at_call 132; (with_reducible refine (Major_any _ _ _ _ _ _ _).mono ?_); rintro e wn ⟨rfl, hb⟩) | (go_at_call 133; (with_reducible refine (Minor_any _ _ _ _ _ _ _).mono ?_); rintro e wn ⟨rfl, hb⟩) | (go_at_call 134; (with_reducible refine (Patch_any _ _ _ _ _ _ _).mono ?_); rintro e wn ⟨rfl, hb⟩) | (go_at_call 135; (with_reducible refine (Prerelease_any _ _ _ _ _ _ _).mono ?_); rintro e wn ⟨rfl, hb⟩))
    refine hK.out _ _ ?_ (fun hHeld => ?_)
    ·
     exact keepK ha hp hq (by assumption) (by assumption)
    clear hK K
    try simp only [Act.put, putA, putZ, putS]
    refine wpAnyH_ready (rs := [23]) (by kernel_rfl) (by simp) ?_
    refine AllReadyH.cons (o := { dst := some 69, op := Go.Op.call { callee := Go.Callee.value (Go.Operand.func 133), args := #[Go.Operand.tmp 68], argTypes := #[79] }, type := 27, pos := "constraints.go:439", after := #[{ on := 22, ground := Go.Ground.data }, { on := 16, ground := Go.Ground.chain }, { on := 12, ground := Go.Ground.guard }], guard := some (12, true) }) rfl (fun K hK => ?_) AllReadyH.nil
    go_simp
    (first | (go_at_call 132; (with_reducible refine (Major_any _ _ _ _ _ _ _).mono ?_); rintro e wn ⟨rfl, hb⟩) | (go_at_call 133; (with_reducible refine (Minor_any _ _ _ _ _ _ _).mono ?_); rintro e wn ⟨rfl, hb⟩) | (go_at_call 134; (with_reducible refine (Patch_any _ _ _ _ _ _ _).mono ?_); rintro e wn ⟨rfl, hb⟩) | (go_at_call 135; (with_reducible refine (Prerelease_any _ _ _ _ _ _ _).mono ?_); rintro e wn ⟨rfl, hb⟩))
    refine hK.out _ _ ?_ (fun hHeld => ?_)
    ·
     exact keepK ha hp hq (by assumption) (by assumption)
    clear hK K
    try simp only [Act.put, putA, putZ, putS]
    refine wpAnyH_take (i := 24) (oi := { dst := some 70, op := Go.Op.binOp Go.BinOp.gtr 27 (Go.Operand.tmp 62) (Go.Operand.tmp 69) 27, type := 4, pos := "constraints.go:439", after := #[{ on := 16, ground := Go.Ground.data }, { on := 23, ground := Go.Ground.data }, { on := 12, ground := Go.Ground.guard }], guard := some (12, true) }) (v := ?_) rfl (by kernel_rfl) (by kernel_rfl) (by kernel_rfl) (fun _ _ _ h => h) (Or.inl ⟨by rfl, ?_⟩) (by assumption) ?_
    rotate_left
    ·
     (intro wx hSw; (try dsimp only at hSw); go_simp; first | done | with_reducible rfl)
    try simp only [Act.put, putA, putZ, putS]
    refine wpAnyH_take (i := 25) (oi := { dst := some 71, op := Go.Op.pick (Go.Operand.tmp 58) (Go.Operand.tmp 70) (Go.Operand.const (Go.Value.bool false)), type := 4, pos := "constraints.go:439", after := #[{ on := 12, ground := Go.Ground.data }, { on := 24, ground := Go.Ground.data }], guard := none }) (v := ?_) rfl (by kernel_rfl) (by kernel_rfl) (by kernel_rfl) (fun _ _ _ h => h) (Or.inl ⟨by rfl, ?_⟩) (by assumption) ?_
    rotate_left
    ·
     (intro wx hSw; (try dsimp only at hSw); go_simp; first | done | with_reducible rfl)
    try simp only [Act.put, putA, putZ, putS]
    refine wpAnyH_take (i := 26) (oi := { dst := some 72, op := Go.Op.move (Go.Operand.tmp 71), type := 4, pos := "constraints.go:439", after := #[{ on := 25, ground := Go.Ground.data }, { on := 23, ground := Go.Ground.chain }], guard := none }) (v := ?_) rfl (by kernel_rfl) (by kernel_rfl) (by kernel_rfl) (fun _ _ _ h => h) (Or.inl ⟨by rfl, ?_⟩) (by assumption) ?_
    rotate_left
    ·
     (intro wx hSw; (try dsimp only at hSw); go_simp; first | done | with_reducible rfl)
    try simp only [Act.put, putA, putZ, putS]
    refine wpAnyH_take (i := 27) (oi := { dst := some 73, op := Go.Op.move (Go.Operand.tmp 1), type := 133, pos := "constraints.go:439", after := #[{ on := 26, ground := Go.Ground.guard }], guard := some (26, true) }) (v := undef) rfl (by kernel_rfl) (by kernel_rfl) (by kernel_rfl) (fun _ _ _ h => h) (Or.inr ⟨by rfl, rfl⟩) (by assumption) ?_
    try simp only [Act.put, putA, putZ, putS]
    refine wpAnyH_take (i := 28) (oi := { dst := some 74, op := Go.Op.nilCheck (Go.Operand.tmp 73), type := 0, pos := "constraints.go:439", after := #[{ on := 27, ground := Go.Ground.data }, { on := 26, ground := Go.Ground.guard }], guard := some (26, true) }) (v := undef) rfl (by kernel_rfl) (by kernel_rfl) (by kernel_rfl) (fun _ _ _ h => h) (Or.inr ⟨by rfl, rfl⟩) (by assumption) ?_
    try simp only [Act.put, putA, putZ, putS]
    refine wpAnyH_take (i := 29) (oi := { dst := some 75, op := Go.Op.fieldAddr 155 (Go.Operand.tmp 74) 3, type := 0, pos := "constraints.go:439", after := #[{ on := 28, ground := Go.Ground.data }, { on := 26, ground := Go.Ground.guard }], guard := some (26, true) }) (v := undef) rfl (by kernel_rfl) (by kernel_rfl) (by kernel_rfl) (fun _ _ _ h => h) (Or.inr ⟨by rfl, rfl⟩) (by assumption) ?_
    try simp only [Act.put, putA, putZ, putS]
    refine wpAnyH_take (i := 30) (oi := { dst := some 76, op := Go.Op.load 4 (Go.Operand.tmp 75), type := 4, pos := "constraints.go:439", after := #[{ on := 29, ground := Go.Ground.data }, { on := 26, ground := Go.Ground.guard }], guard := some (26, true) }) (v := undef) rfl (by kernel_rfl) (by kernel_rfl) (by kernel_rfl) (fun _ _ _ h => h) (Or.inr ⟨by rfl, rfl⟩) (by assumption) ?_
    try simp only [Act.put, putA, putZ, putS]
    refine wpAnyH_take (i := 31) (oi := { dst := some 77, op := Go.Op.unOp Go.UnOp.not 4 (Go.Operand.tmp 76), type := 4, pos := "constraints.go:439", after := #[{ on := 30, ground := Go.Ground.data }, { on := 26, ground := Go.Ground.guard }], guard := some (26, true) }) (v := undef) rfl (by kernel_rfl) (by kernel_rfl) (by kernel_rfl) (fun _ _ _ h => h) (Or.inr ⟨by rfl, rfl⟩) (by assumption) ?_
    try simp only [Act.put, putA, putZ, putS]
    refine wpAnyH_take (i := 32) (oi := { dst := some 78, op := Go.Op.pick (Go.Operand.tmp 72) (Go.Operand.tmp 77) (Go.Operand.const (Go.Value.bool false)), type := 4, pos := "constraints.go:439", after := #[{ on := 26, ground := Go.Ground.data }, { on := 31, ground := Go.Ground.data }], guard := none }) (v := ?_) rfl (by kernel_rfl) (by kernel_rfl) (by kernel_rfl) (fun _ _ _ h => h) (Or.inl ⟨by rfl, ?_⟩) (by assumption) ?_
    rotate_left
    ·
     (intro wx hSw; (try dsimp only at hSw); go_simp; first | done | with_reducible rfl)
    try simp only [Act.put, putA, putZ, putS]
    refine wpAnyH_done (by kernel_rfl) ?_ _
    go_wp2_with fail
    go_meet
    case rel => exact ⟨by first | rfl | (rw [h2, h3]; rfl), Aside0.mk (by assumption)⟩
   case true =>
    refine wp_region_held_drew (S := (fun w' => w'.cell? ⟨a, 0, none⟩ = some (.int .u64 M1) ∧ w'.cell? ⟨a, 1, none⟩ = some (.int .u64 m1) ∧ w'.cell? ⟨a, 2, none⟩ = some (.int .u64 t1) ∧ w'.cell? ⟨a, 3, none⟩ = some (.string u1) ∧ w'.cell? ⟨a, 4, none⟩ = some (.string v1) ∧ w'.cell? ⟨a, 5, none⟩ = some (.string ⟨#[]⟩) ∧ w'.cell? ⟨p, 0, none⟩ = some (.int .u64 M2) ∧ w'.cell? ⟨p, 1, none⟩ = some (.int .u64 m2) ∧ w'.cell? ⟨p, 2, none⟩ = some (.int .u64 t2) ∧ w'.cell? ⟨p, 3, none⟩ = some (.string u2) ∧ w'.cell? ⟨p, 4, none⟩ = some (.string v2) ∧ w'.cell? ⟨p, 5, none⟩ = some (.string ⟨#[]⟩) ∧ w'.cell? ⟨q, 0, none⟩ = some (.pointer (some ⟨p, 0, none⟩)) ∧ w'.cell? ⟨q, 1, none⟩ = some (.string ⟨#[]⟩) ∧ w'.cell? ⟨q, 2, none⟩ = some (.string s) ∧ w'.cell? ⟨q, 3, none⟩ = some (.bool md) ∧ w'.cell? ⟨q, 4, none⟩ = some (.bool d) ∧ w'.cell? ⟨q, 5, none⟩ = some (.bool pd) ∧ Below w.heap.size w w')) (by kernel_rfl) ?_ (fun hHeld => ?_)
    ·
     exact keepKd (by assumption)
    refine wpAnyH_take (i := 0) (oi := { dst := some 46, op := Go.Op.move (Go.Operand.tmp 0), type := 79, pos := "constraints.go:439", after := #[], guard := none }) (v := ?_) rfl (by kernel_rfl) (by kernel_rfl) (by kernel_rfl) (fun _ _ _ h => h) (Or.inl ⟨by rfl, ?_⟩) (by assumption) ?_
    rotate_left
    ·
     (intro wx hSw; (try dsimp only at hSw); go_simp; first | done | with_reducible rfl)
    try simp only [Act.put, putA, putZ, putS]
    refine wpAnyH_take (i := 1) (oi := { dst := some 47, op := Go.Op.nilCheck (Go.Operand.tmp 46), type := 0, pos := "constraints.go:439", after := #[{ on := 0, ground := Go.Ground.data }], guard := none }) (v := ?_) rfl (by kernel_rfl) (by kernel_rfl) (by kernel_rfl) (fun _ _ _ h => h) (Or.inl ⟨by rfl, ?_⟩) (by assumption) ?_
    rotate_left
    ·
     (intro wx hSw; (try dsimp only at hSw); go_simp; first | done | with_reducible rfl)
    try simp only [Act.put, putA, putZ, putS]
    refine wpAnyH_take (i := 2) (oi := { dst := some 48, op := Go.Op.load 97 (Go.Operand.tmp 47), type := 97, pos := "constraints.go:439", after := #[{ on := 1, ground := Go.Ground.data }], guard := none }) (v := ?_) rfl (by kernel_rfl) (by kernel_rfl) (by kernel_rfl) (fun _ _ _ h => h) (Or.inl ⟨by rfl, ?_⟩) (by assumption) ?_
    rotate_left
    ·
     (intro wx hSw; (try dsimp only at hSw); go_simp; first | done | with_reducible rfl)
    try simp only [Act.put, putA, putZ, putS]
    refine wpAnyH_take (i := 4) (oi := { dst := some 50, op := Go.Op.move (Go.Operand.tmp 1), type := 133, pos := "constraints.go:439", after := #[], guard := none }) (v := ?_) rfl (by kernel_rfl) (by kernel_rfl) (by kernel_rfl) (fun _ _ _ h => h) (Or.inl ⟨by rfl, ?_⟩) (by assumption) ?_
    rotate_left
    ·
     (intro wx hSw; (try dsimp only at hSw); go_simp; first | done | with_reducible rfl)
    try simp only [Act.put, putA, putZ, putS]
    refine wpAnyH_take (i := 5) (oi := { dst := some 51, op := Go.Op.nilCheck (Go.Operand.tmp 50), type := 0, pos := "constraints.go:439", after := #[{ on := 4, ground := Go.Ground.data }], guard := none }) (v := ?_) rfl (by kernel_rfl) (by kernel_rfl) (by kernel_rfl) (fun _ _ _ h => h) (Or.inl ⟨by rfl, ?_⟩) (by assumption) ?_
    rotate_left
    ·
     (intro wx hSw; (try dsimp only at hSw); go_simp; first | done | with_reducible rfl)
    try simp only [Act.put, putA, putZ, putS]
    refine wpAnyH_take (i := 6) (oi := { dst := some 52, op := Go.Op.fieldAddr 155 (Go.Operand.tmp 51) 0, type := 0, pos := "constraints.go:439", after := #[{ on := 5, ground := Go.Ground.data }], guard := none }) (v := ?_) rfl (by kernel_rfl) (by kernel_rfl) (by kernel_rfl) (fun _ _ _ h => h) (Or.inl ⟨by rfl, ?_⟩) (by assumption) ?_
    rotate_left
    ·
     (intro wx hSw; (try dsimp only at hSw); go_simp; first | done | with_reducible rfl)
    try simp only [Act.put, putA, putZ, putS]
    refine wpAnyH_take (i := 7) (oi := { dst := some 53, op := Go.Op.load 79 (Go.Operand.tmp 52), type := 79, pos := "constraints.go:439", after := #[{ on := 6, ground := Go.Ground.data }], guard := none }) (v := ?_) rfl (by kernel_rfl) (by kernel_rfl) (by kernel_rfl) (fun _ _ _ h => h) (Or.inl ⟨by rfl, ?_⟩) (by assumption) ?_
    rotate_left
    ·
     (intro wx hSw; (try dsimp only at hSw); go_simp; first | done | with_reducible rfl)
    try simp only [Act.put, putA, putZ, putS]
    refine wpAnyH_take (i := 8) (oi := { dst := some 54, op := Go.Op.nilCheck (Go.Operand.tmp 53), type := 0, pos := "constraints.go:439", after := #[{ on := 7, ground := Go.Ground.data }], guard := none }) (v := ?_) rfl (by kernel_rfl) (by kernel_rfl) (by kernel_rfl) (fun _ _ _ h => h) (Or.inl ⟨by rfl, ?_⟩) (by assumption) ?_
    rotate_left
    ·
     (intro wx hSw; (try dsimp only at hSw); go_simp; first | done | with_reducible rfl)
    try simp only [Act.put, putA, putZ, putS]
    refine wpAnyH_take (i := 9) (oi := { dst := some 55, op := Go.Op.load 97 (Go.Operand.tmp 54), type := 97, pos := "constraints.go:439", after := #[{ on := 8, ground := Go.Ground.data }], guard := none }) (v := ?_) rfl (by kernel_rfl) (by kernel_rfl) (by kernel_rfl) (fun _ _ _ h => h) (Or.inl ⟨by rfl, ?_⟩) (by assumption) ?_
    rotate_left
    ·
     (intro wx hSw; (try dsimp only at hSw); go_simp; first | done | with_reducible rfl)
    try simp only [Act.put, putA, putZ, putS]
    refine wpAnyH_ready (rs := [3]) (by kernel_rfl) (by simp) ?_
    refine AllReadyH.cons (o := { dst := some 49, op := Go.Op.call { callee := Go.Callee.value (Go.Operand.func 132), args := #[Go.Operand.tmp 48], argTypes := #[79] }, type := 27, pos := "constraints.go:439", after := #[{ on := 2, ground := Go.Ground.data }], guard := none }) rfl (fun K hK => ?_) AllReadyH.nil
    go_simp
    (first | (go_at_call 132; (with_reducible refine (Major_any _ _ _ _ _ _ _).mono ?_); rintro e wn ⟨rfl, hb⟩) | (go_at_call 133; (with_reducible refine (Minor_any _ _ _ _ _ _ _).mono ?_); rintro e wn ⟨rfl, hb⟩) | (go_at_call 134; (with_reducible refine (Patch_any _ _ _ _ _ _ _).mono ?_); rintro e wn ⟨rfl, hb⟩) | (go_at_call 135; (with_reducible refine (Prerelease_any _ _ _ _ _ _ _).mono ?_); rintro e wn ⟨rfl, hb⟩))
    refine hK.out _ _ ?_ (fun hHeld => ?_)
    ·
     exact keepK ha hp hq (by assumption) (by assumption)
    clear hK K
    try simp only [Act.put, putA, putZ, putS]
    refine wpAnyH_ready (rs := [10]) (by kernel_rfl) (by simp) ?_
    refine AllReadyH.cons (o := { dst := some 56, op := Go.Op.call { callee := Go.Callee.value (Go.Operand.func 132), args := #[Go.Operand.tmp 55], argTypes := #[79] }, type := 27, pos := "constraints.go:439", after := #[{ on := 9, ground := Go.Ground.data }, { on := 3, ground := Go.Ground.chain }], guard := none }) rfl (fun K hK => ?_) AllReadyH.nil
    go_simp
    (first | (go_at_call 132; (with_reducible refine (Major_any _ _ _ _ _ _ _).mono ?_); rintro e wn ⟨rfl, hb⟩) | (go_at_call 133; (with_reducible refine (Minor_any _ _ _ _ _ _ _).mono ?_); rintro e wn ⟨rfl, hb⟩) | (go_at_call 134; (with_reducible refine (Patch_any _ _ _ _ _ _ _).mono ?_); rintro e wn ⟨rfl, hb⟩) | (go_at_call 135; (with_reducible refine (Prerelease_any _ _ _ _ _ _ _).mono ?_); rintro e wn ⟨rfl, hb⟩))
    refine hK.out _ _ ?_ (fun hHeld => ?_)
    ·
     exact keepK ha hp hq (by assumption) (by assumption)
    clear hK K
    try simp only [Act.put, putA, putZ, putS]
    refine wpAnyH_take (i := 11) (oi := { dst := some 57, op := Go.Op.binOp Go.BinOp.eql 27 (Go.Operand.tmp 49) (Go.Operand.tmp 56) 27, type := 4, pos := "constraints.go:439", after := #[{ on := 3, ground := Go.Ground.data }, { on := 10, ground := Go.Ground.data }], guard := none }) (v := ?_) rfl (by kernel_rfl) (by kernel_rfl) (by kernel_rfl) (fun _ _ _ h => h) (Or.inl ⟨by rfl, ?_⟩) (by assumption) ?_
    rotate_left
    ·
     (intro wx hSw; (try dsimp only at hSw); go_simp; first | done | with_reducible rfl)
    try simp only [Act.put, putA, putZ, putS]
    refine wpAnyH_take (i := 12) (oi := { dst := some 58, op := Go.Op.move (Go.Operand.tmp 57), type := 4, pos := "constraints.go:439", after := #[{ on := 11, ground := Go.Ground.data }, { on := 10, ground := Go.Ground.chain }], guard := none }) (v := ?_) rfl (by kernel_rfl) (by kernel_rfl) (by kernel_rfl) (fun _ _ _ h => h) (Or.inl ⟨by rfl, ?_⟩) (by assumption) ?_
    rotate_left
    ·
     (intro wx hSw; (try dsimp only at hSw); go_simp; first | done | with_reducible rfl)
    try simp only [Act.put, putA, putZ, putS]
    refine wpAnyH_take (i := 13) (oi := { dst := some 59, op := Go.Op.move (Go.Operand.tmp 0), type := 79, pos := "constraints.go:439", after := #[{ on := 12, ground := Go.Ground.guard }], guard := some (12, true) }) (v := ?_) rfl (by kernel_rfl) (by kernel_rfl) (by kernel_rfl) (fun _ _ _ h => h) (Or.inl ⟨by rfl, ?_⟩) (by assumption) ?_
    rotate_left
    ·
     (intro wx hSw; (try dsimp only at hSw); go_simp; first | done | with_reducible rfl)
    try simp only [Act.put, putA, putZ, putS]
    refine wpAnyH_take (i := 14) (oi := { dst := some 60, op := Go.Op.nilCheck (Go.Operand.tmp 59), type := 0, pos := "constraints.go:439", after := #[{ on := 13, ground := Go.Ground.data }, { on := 12, ground := Go.Ground.guard }], guard := some (12, true) }) (v := ?_) rfl (by kernel_rfl) (by kernel_rfl) (by kernel_rfl) (fun _ _ _ h => h) (Or.inl ⟨by rfl, ?_⟩) (by assumption) ?_
    rotate_left
    ·
     (intro wx hSw; (try dsimp only at hSw); go_simp; first | done | with_reducible rfl)
    try simp only [Act.put, putA, putZ, putS]
    refine wpAnyH_take (i := 15) (oi := { dst := some 61, op := Go.Op.load 97 (Go.Operand.tmp 60), type := 97, pos := "constraints.go:439", after := #[{ on := 14, ground := Go.Ground.data }, { on := 12, ground := Go.Ground.guard }], guard := some (12, true) }) (v := ?_) rfl (by kernel_rfl) (by kernel_rfl) (by kernel_rfl) (fun _ _ _ h => h) (Or.inl ⟨by rfl, ?_⟩) (by assumption) ?_
    rotate_left
    ·
     (intro wx hSw; (try dsimp only at hSw); go_simp; first | done | with_reducible rfl)
    try simp only [Act.put, putA, putZ, putS]
    refine wpAnyH_take (i := 17) (oi := { dst := some 63, op := Go.Op.move (Go.Operand.tmp 1), type := 133, pos := "constraints.go:439", after := #[{ on := 12, ground := Go.Ground.guard }], guard := some (12, true) }) (v := ?_) rfl (by kernel_rfl) (by kernel_rfl) (by kernel_rfl) (fun _ _ _ h => h) (Or.inl ⟨by rfl, ?_⟩) (by assumption) ?_
    rotate_left
    ·
     (intro wx hSw; (try dsimp only at hSw); go_simp; first | done | with_reducible rfl)
    try simp only [Act.put, putA, putZ, putS]
    refine wpAnyH_take (i := 18) (oi := { dst := some 64, op := Go.Op.nilCheck (Go.Operand.tmp 63), type := 0, pos := "constraints.go:439", after := #[{ on := 17, ground := Go.Ground.data }, { on := 12, ground := Go.Ground.guard }], guard := some (12, true) }) (v := ?_) rfl (by kernel_rfl) (by kernel_rfl) (by kernel_rfl) (fun _ _ _ h => h) (Or.inl ⟨by rfl, ?_⟩) (by assumption) ?_
    rotate_left
    ·
     (intro wx hSw; (try dsimp only at hSw); go_simp; first | done | with_reducible rfl)
    try simp only [Act.put, putA, putZ, putS]
    refine wpAnyH_take (i := 19) (oi := { dst := some 65, op := Go.Op.fieldAddr 155 (Go.Operand.tmp 64) 0, type := 0, pos := "constraints.go:439", after := #[{ on := 18, ground := Go.Ground.data }, { on := 12, ground := Go.Ground.guard }], guard := some (12, true) }) (v := ?_) rfl (by kernel_rfl) (by kernel_rfl) (by kernel_rfl) (fun _ _ _ h => h) (Or.inl ⟨by rfl, ?_⟩) (by assumption) ?_
    rotate_left
    ·
     (intro wx hSw; (try dsimp only at hSw); go_simp; first | done | with_reducible rfl)
    try simp only [Act.put, putA, putZ, putS]
    refine wpAnyH_take (i := 20) (oi := { dst := some 66, op := Go.Op.load 79 (Go.Operand.tmp 65), type := 79, pos := "constraints.go:439", after := #[{ on := 19, ground := Go.Ground.data }, { on := 12, ground := Go.Ground.guard }], guard := some (12, true) }) (v := ?_) rfl (by kernel_rfl) (by kernel_rfl) (by kernel_rfl) (fun _ _ _ h => h) (Or.inl ⟨by rfl, ?_⟩) (by assumption) ?_
    rotate_left
    ·
     (intro wx hSw; (try dsimp only at hSw); go_simp; first | done | with_reducible rfl)
    try simp only [Act.put, putA, putZ, putS]
    refine wpAnyH_take (i := 21) (oi := { dst := some 67, op := Go.Op.nilCheck (Go.Operand.tmp 66), type := 0, pos := "constraints.go:439", after := #[{ on := 20, ground := Go.Ground.data }, { on := 12, ground := Go.Ground.guard }], guard := some (12, true) }) (v := ?_) rfl (by kernel_rfl) (by kernel_rfl) (by kernel_rfl) (fun _ _ _ h => h) (Or.inl ⟨by rfl, ?_⟩) (by assumption) ?_
    rotate_left
    ·
     (intro wx hSw; (try dsimp only at hSw); go_simp; first | done | with_reducible rfl)
    try simp only [Act.put, putA, putZ, putS]
    refine wpAnyH_take (i := 22) (oi := { dst := some 68, op := Go.Op.load 97 (Go.Operand.tmp 67), type := 97, pos := "constraints.go:439", after := #[{ on := 21, ground := Go.Ground.data }, { on := 12, ground := Go.Ground.guard }], guard := some (12, true) }) (v := ?_) rfl (by kernel_rfl) (by kernel_rfl) (by kernel_rfl) (fun _ _ _ h => h) (Or.inl ⟨by rfl, ?_⟩) (by assumption) ?_
    rotate_left
    ·
     (intro wx hSw; (try dsimp only at hSw); go_simp; first | done | with_reducible rfl)
    try simp only [Act.put, putA, putZ, putS]
    refine wpAnyH_ready (rs := [16]) (by kernel_rfl) (by simp) ?_
    refine AllReadyH.cons (o := { dst := some 62, op := Go.Op.call { callee := Go.Callee.value (Go.Operand.func 133), args := #[Go.Operand.tmp 61], argTypes := #[79] }, type := 27, pos := "constraints.go:439", after := #[{ on := 15, ground := Go.Ground.data }, { on := 12, ground := Go.Ground.chain }, { on := 12, ground := Go.Ground.guard }], guard := some (12, true) }) rfl (fun K hK => ?_) AllReadyH.nil
    go_simp
    (first | (go_at_call 132; (with_reducible refine (Major_any _ _ _ _ _ _ _).mono ?_); rintro e wn ⟨rfl, hb⟩) | (go_at_call 133; (with_reducible refine (Minor_any _ _ _ _ _ _ _).mono ?_); rintro e wn ⟨rfl, hb⟩) | (go_at_call 134; (with_reducible refine (Patch_any _ _ _ _ _ _ _).mono ?_); rintro e wn ⟨rfl, hb⟩) | (go_at_call 135; (with_reducible refine (Prerelease_any _ _ _ _ _ _ _).mono ?_); rintro e wn ⟨rfl, hb⟩))
    refine hK.out _ _ ?_ (fun hHeld => ?_)
    ·
     exact keepK ha hp hq (by assumption) (by assumption)
    clear hK K
    try simp only [Act.put, putA, putZ, putS]
    refine wpAnyH_ready (rs := [23]) (by kernel_rfl) (by simp) ?_
    refine AllReadyH.cons (o := { dst := some 69, op := Go.Op.call { callee := Go.Callee.value (Go.Operand.func 133), args := #[Go.Operand.tmp 68], argTypes := #[79] }, type := 27, pos := "constraints.go:439", after := #[{ on := 22, ground := Go.Ground.data }, { on := 16, ground := Go.Ground.chain }, { on := 12, ground := Go.Ground.guard }], guard := some (12, true) }) rfl (fun K hK => ?_) AllReadyH.nil
    go_simp
    (first | (go_at_call 132; (with_reducible refine (Major_any _ _ _ _ _ _ _).mono ?_); rintro e wn ⟨rfl, hb⟩) | (go_at_call 133; (with_reducible refine (Minor_any _ _ _ _ _ _ _).mono ?_); rintro e wn ⟨rfl, hb⟩) | (go_at_call 134; (with_reducible refine (Patch_any _ _ _ _ _ _ _).mono ?_); rintro e wn ⟨rfl, hb⟩) | (go_at_call 135; (with_reducible refine (Prerelease_any _ _ _ _ _ _ _).mono ?_); rintro e wn ⟨rfl, hb⟩))
    refine hK.out _ _ ?_ (fun hHeld => ?_)
    ·
     exact keepK ha hp hq (by assumption) (by assumption)
    clear hK K
    try simp only [Act.put, putA, putZ, putS]
    refine wpAnyH_take (i := 24) (oi := { dst := some 70, op := Go.Op.binOp Go.BinOp.gtr 27 (Go.Operand.tmp 62) (Go.Operand.tmp 69) 27, type := 4, pos := "constraints.go:439", after := #[{ on := 16, ground := Go.Ground.data }, { on := 23, ground := Go.Ground.data }, { on := 12, ground := Go.Ground.guard }], guard := some (12, true) }) (v := ?_) rfl (by kernel_rfl) (by kernel_rfl) (by kernel_rfl) (fun _ _ _ h => h) (Or.inl ⟨by rfl, ?_⟩) (by assumption) ?_
    rotate_left
    ·
     (intro wx hSw; (try dsimp only at hSw); go_simp; first | done | with_reducible rfl)
    try simp only [Act.put, putA, putZ, putS]
    refine wpAnyH_take (i := 25) (oi := { dst := some 71, op := Go.Op.pick (Go.Operand.tmp 58) (Go.Operand.tmp 70) (Go.Operand.const (Go.Value.bool false)), type := 4, pos := "constraints.go:439", after := #[{ on := 12, ground := Go.Ground.data }, { on := 24, ground := Go.Ground.data }], guard := none }) (v := ?_) rfl (by kernel_rfl) (by kernel_rfl) (by kernel_rfl) (fun _ _ _ h => h) (Or.inl ⟨by rfl, ?_⟩) (by assumption) ?_
    rotate_left
    ·
     (intro wx hSw; (try dsimp only at hSw); go_simp; first | done | with_reducible rfl)
    try simp only [Act.put, putA, putZ, putS]
    refine wpAnyH_take (i := 26) (oi := { dst := some 72, op := Go.Op.move (Go.Operand.tmp 71), type := 4, pos := "constraints.go:439", after := #[{ on := 25, ground := Go.Ground.data }, { on := 23, ground := Go.Ground.chain }], guard := none }) (v := ?_) rfl (by kernel_rfl) (by kernel_rfl) (by kernel_rfl) (fun _ _ _ h => h) (Or.inl ⟨by rfl, ?_⟩) (by assumption) ?_
    rotate_left
    ·
     (intro wx hSw; (try dsimp only at hSw); go_simp; first | done | with_reducible rfl)
    try simp only [Act.put, putA, putZ, putS]
    refine wpAnyH_take (i := 27) (oi := { dst := some 73, op := Go.Op.move (Go.Operand.tmp 1), type := 133, pos := "constraints.go:439", after := #[{ on := 26, ground := Go.Ground.guard }], guard := some (26, true) }) (v := ?_) rfl (by kernel_rfl) (by kernel_rfl) (by kernel_rfl) (fun _ _ _ h => h) (Or.inl ⟨by rfl, ?_⟩) (by assumption) ?_
    rotate_left
    ·
     (intro wx hSw; (try dsimp only at hSw); go_simp; first | done | with_reducible rfl)
    try simp only [Act.put, putA, putZ, putS]
    refine wpAnyH_take (i := 28) (oi := { dst := some 74, op := Go.Op.nilCheck (Go.Operand.tmp 73), type := 0, pos := "constraints.go:439", after := #[{ on := 27, ground := Go.Ground.data }, { on := 26, ground := Go.Ground.guard }], guard := some (26, true) }) (v := ?_) rfl (by kernel_rfl) (by kernel_rfl) (by kernel_rfl) (fun _ _ _ h => h) (Or.inl ⟨by rfl, ?_⟩) (by assumption) ?_
    rotate_left
    ·
     (intro wx hSw; (try dsimp only at hSw); go_simp; first | done | with_reducible rfl)
    try simp only [Act.put, putA, putZ, putS]
    refine wpAnyH_take (i := 29) (oi := { dst := some 75, op := Go.Op.fieldAddr 155 (Go.Operand.tmp 74) 3, type := 0, pos := "constraints.go:439", after := #[{ on := 28, ground := Go.Ground.data }, { on := 26, ground := Go.Ground.guard }], guard := some (26, true) }) (v := ?_) rfl (by kernel_rfl) (by kernel_rfl) (by kernel_rfl) (fun _ _ _ h => h) (Or.inl ⟨by rfl, ?_⟩) (by assumption) ?_
    rotate_left
    ·
     (intro wx hSw; (try dsimp only at hSw); go_simp; first | done | with_reducible rfl)
    try simp only [Act.put, putA, putZ, putS]
    refine wpAnyH_take (i := 30) (oi := { dst := some 76, op := Go.Op.load 4 (Go.Operand.tmp 75), type := 4, pos := "constraints.go:439", after := #[{ on := 29, ground := Go.Ground.data }, { on := 26, ground := Go.Ground.guard }], guard := some (26, true) }) (v := ?_) rfl (by kernel_rfl) (by kernel_rfl) (by kernel_rfl) (fun _ _ _ h => h) (Or.inl ⟨by rfl, ?_⟩) (by assumption) ?_
    rotate_left
    ·
     (intro wx hSw; (try dsimp only at hSw); go_simp; first | done | with_reducible rfl)
    try simp only [Act.put, putA, putZ, putS]
    refine wpAnyH_take (i := 31) (oi := { dst := some 77, op := Go.Op.unOp Go.UnOp.not 4 (Go.Operand.tmp 76), type := 4, pos := "constraints.go:439", after := #[{ on := 30, ground := Go.Ground.data }, { on := 26, ground := Go.Ground.guard }], guard := some (26, true) }) (v := ?_) rfl (by kernel_rfl) (by kernel_rfl) (by kernel_rfl) (fun _ _ _ h => h) (Or.inl ⟨by rfl, ?_⟩) (by assumption) ?_
    rotate_left
    ·
     (intro wx hSw; (try dsimp only at hSw); go_simp; first | done | with_reducible rfl)
    try simp only [Act.put, putA, putZ, putS]
    refine wpAnyH_take (i := 32) (oi := { dst := some 78, op := Go.Op.pick (Go.Operand.tmp 72) (Go.Operand.tmp 77) (Go.Operand.const (Go.Value.bool false)), type := 4, pos := "constraints.go:439", after := #[{ on := 26, ground := Go.Ground.data }, { on := 31, ground := Go.Ground.data }], guard := none }) (v := ?_) rfl (by kernel_rfl) (by kernel_rfl) (by kernel_rfl) (fun _ _ _ h => h) (Or.inl ⟨by rfl, ?_⟩) (by assumption) ?_
    rotate_left
    ·
     (intro wx hSw; (try dsimp only at hSw); go_simp; first | done | with_reducible rfl)
    try simp only [Act.put, putA, putZ, putS]
    refine wpAnyH_done (by kernel_rfl) ?_ _
    go_wp2_with fail
    go_meet
    case rel => exact ⟨by first | rfl | (rw [h2, h3]; rfl), Aside0.mk (by assumption)⟩
 case rest =>
 obtain ⟨rfl, hA5⟩ := hcut
 have hS5 := hA5.out
 clear hA5
 cases h4 : ((M1 == M2 && decide (m2 < m1)) && !md)
 all_goals
  go_wp2_with (first | (go_at_call 170; (with_reducible refine (errNew_any _ _).mono ?_); rintro e wn ⟨⟨tp9, p9, rfl⟩, hb⟩; have hS := keepK ha hp hq (by assumption) hb))
  (go_ret2; exact ⟨⟨_, congrArg (fun b => Ending.returned (.tuple #[.bool b, _])) (by rw [ho, mostB, hd, h1, h4]; rfl)⟩, lastB (by assumption)⟩)
set_option maxHeartbeats 2000000 in
theorem cLT_any (M1 m1 t1 : Int) (u1 v1 : ByteArray) (M2 m2 t2 : Int) (u2 v2 : ByteArray) (s : ByteArray) (d md pd : Bool) (a p q : Nat) (w : World) (hG0 : Gl w) (s1 : u1.size < 8796093022208) (s2 : u2.size < 8796093022208) (hV : VAt w a M1 m1 t1 u1 v1) (hC : VAt w p M2 m2 t2 u2 v2) (hK : KAt w q p s d md pd) (pre : Bool) :
  Calls Tryd.prog 174 #[.pointer (some ⟨a, 0, none⟩), .pointer (some ⟨q, 0, none⟩), .bool pre] w fun e w' => (∃ ev, e = .returned (.tuple #[.bool (openB pre u1 && decide (cmpVer M1 m1 t1 u1 M2 m2 t2 u2 < 0)), ev])) ∧ Below w.heap.size w w' := by
 have ha := hV.lt
 have hp := hC.lt
 have hq := hK.lt
 have hS0 := startK hV hC hK
 have C : ∀ cur : World, (cur.cell? ⟨a, 0, none⟩ = some (.int .u64 M1) ∧ cur.cell? ⟨a, 1, none⟩ = some (.int .u64 m1) ∧ cur.cell? ⟨a, 2, none⟩ = some (.int .u64 t1) ∧ cur.cell? ⟨a, 3, none⟩ = some (.string u1) ∧ cur.cell? ⟨a, 4, none⟩ = some (.string v1) ∧ cur.cell? ⟨a, 5, none⟩ = some (.string ⟨#[]⟩) ∧ cur.cell? ⟨p, 0, none⟩ = some (.int .u64 M2) ∧ cur.cell? ⟨p, 1, none⟩ = some (.int .u64 m2) ∧ cur.cell? ⟨p, 2, none⟩ = some (.int .u64 t2) ∧ cur.cell? ⟨p, 3, none⟩ = some (.string u2) ∧ cur.cell? ⟨p, 4, none⟩ = some (.string v2) ∧ cur.cell? ⟨p, 5, none⟩ = some (.string ⟨#[]⟩) ∧ cur.cell? ⟨q, 0, none⟩ = some (.pointer (some ⟨p, 0, none⟩)) ∧ cur.cell? ⟨q, 1, none⟩ = some (.string ⟨#[]⟩) ∧ cur.cell? ⟨q, 2, none⟩ = some (.string s) ∧ cur.cell? ⟨q, 3, none⟩ = some (.bool md) ∧ cur.cell? ⟨q, 4, none⟩ = some (.bool d) ∧ cur.cell? ⟨q, 5, none⟩ = some (.bool pd) ∧ Below w.heap.size w cur) → Calls Tryd.prog 84 #[.pointer (some ⟨a, 0, none⟩), .pointer (some ⟨p, 0, none⟩)] cur fun e w' => e = .returned (.int .i64 (cmpVer M1 m1 t1 u1 M2 m2 t2 u2)) ∧ Below cur.heap.size cur w' :=
  fun cur h => Compare_at M1 m1 t1 u1 v1 M2 m2 t2 u2 v2 a p cur (VofS ha h) (CofS hp h) (GofS hG0 h) s1 s2
 generalize cmpVer M1 m1 t1 u1 M2 m2 t2 u2 = c at C ⊢
 cases hu : u1.toList.isEmpty <;> cases pre
 all_goals
  go_enter Tryd.func174, Tryd.ntmps174
  go_wp2_with (first | (go_at_call 132; (with_reducible refine (Major_any _ _ _ _ _ _ _).mono ?_); rintro e wn ⟨rfl, hb⟩; have hS := keepK ha hp hq (by assumption) hb) | (go_at_call 133; (with_reducible refine (Minor_any _ _ _ _ _ _ _).mono ?_); rintro e wn ⟨rfl, hb⟩; have hS := keepK ha hp hq (by assumption) hb) | (go_at_call 134; (with_reducible refine (Patch_any _ _ _ _ _ _ _).mono ?_); rintro e wn ⟨rfl, hb⟩; have hS := keepK ha hp hq (by assumption) hb) | (go_at_call 135; (with_reducible refine (Prerelease_any _ _ _ _ _ _ _).mono ?_); rintro e wn ⟨rfl, hb⟩; have hS := keepK ha hp hq (by assumption) hb) | (go_at_call 84; (with_reducible refine (C _ ?_).mono ?_); assumption; rintro e wn ⟨rfl, hb⟩; have hS := keepK ha hp hq (by assumption) hb) | (go_at_call 170; (with_reducible refine (errNew_any _ _).mono ?_); rintro e wn ⟨⟨tp9, p9, rfl⟩, hb⟩; have hS := keepK ha hp hq (by assumption) hb))
  all_goals (go_ret2; refine ⟨⟨_, congrArg (fun b => Ending.returned (.tuple #[.bool b, _])) ?_⟩, lastB (by assumption)⟩; first | rfl | (simp [openB, decide_eq_true_eq, *]; done) | (simp_all [openB, decide_eq_true_eq]; done))
end Go.Proofs.YtalpehfjjidfhaaDoor.Hand
