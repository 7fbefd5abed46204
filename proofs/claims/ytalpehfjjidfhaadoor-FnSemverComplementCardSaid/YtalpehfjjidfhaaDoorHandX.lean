/- What is proved: by hand, the comparison ~ of constraints, as a plain function of its parts. -/
import Derived.Test.YtalpehfjjidfhaaDoorHandK
namespace Go.Proofs.YtalpehfjjidfhaaDoor.Hand
set_option linter.unusedVariables false
set_option linter.unusedSimpArgs false
open Go.RowKit Go.Proofs.YtalpehfjjidfhaaDoorW.PrintWords Sv
def tildeB (c M1 m1 M2 m2 t2 : Int) (md pd : Bool) : Bool := !decide (c < 0) && ((M2 == 0 && m2 == 0 && t2 == 0 && !md && !pd) || (M1 == M2 && (m1 == m2 || md)))
theorem beq_of {a b : Int} {r : Bool} (h : (a != b) = r) : (a == b) = !r := by rw [← h, bne, Bool.not_not]
theorem last_of {a b : Int} {md r : Bool} (h : ((a != b) && !md) = r) : (a == b || md) = !r := by
 rw [← h, bne]; cases (a == b) <;> cases md <;> rfl
set_option maxHeartbeats 2000000 in
set_option maxRecDepth 100000 in
theorem cTilde_any (M1 m1 t1 : Int) (u1 v1 : ByteArray) (M2 m2 t2 : Int) (u2 v2 : ByteArray) (s : ByteArray) (d md pd : Bool) (a p q : Nat) (w : World) (hG0 : Gl w) (s1 : u1.size < 8796093022208) (s2 : u2.size < 8796093022208) (hV : VAt w a M1 m1 t1 u1 v1) (hC : VAt w p M2 m2 t2 u2 v2) (hK : KAt w q p s d md pd) (pre : Bool) :
  Calls Tryd.prog 152 #[.pointer (some ⟨a, 0, none⟩), .pointer (some ⟨q, 0, none⟩), .bool pre] w fun e w' => (∃ ev, e = .returned (.tuple #[.bool (openB pre u1 && tildeB (cmpVer M1 m1 t1 u1 M2 m2 t2 u2) M1 m1 M2 m2 t2 md pd), ev])) ∧ Below w.heap.size w w' := by
 have ha := hV.lt
 have hp := hC.lt
 have hq := hK.lt
 have hS0 := startK hV hC hK
 have L : ∀ cur : World, (cur.cell? ⟨a, 0, none⟩ = some (.int .u64 M1) ∧ cur.cell? ⟨a, 1, none⟩ = some (.int .u64 m1) ∧ cur.cell? ⟨a, 2, none⟩ = some (.int .u64 t1) ∧ cur.cell? ⟨a, 3, none⟩ = some (.string u1) ∧ cur.cell? ⟨a, 4, none⟩ = some (.string v1) ∧ cur.cell? ⟨a, 5, none⟩ = some (.string ⟨#[]⟩) ∧ cur.cell? ⟨p, 0, none⟩ = some (.int .u64 M2) ∧ cur.cell? ⟨p, 1, none⟩ = some (.int .u64 m2) ∧ cur.cell? ⟨p, 2, none⟩ = some (.int .u64 t2) ∧ cur.cell? ⟨p, 3, none⟩ = some (.string u2) ∧ cur.cell? ⟨p, 4, none⟩ = some (.string v2) ∧ cur.cell? ⟨p, 5, none⟩ = some (.string ⟨#[]⟩) ∧ cur.cell? ⟨q, 0, none⟩ = some (.pointer (some ⟨p, 0, none⟩)) ∧ cur.cell? ⟨q, 1, none⟩ = some (.string ⟨#[]⟩) ∧ cur.cell? ⟨q, 2, none⟩ = some (.string s) ∧ cur.cell? ⟨q, 3, none⟩ = some (.bool md) ∧ cur.cell? ⟨q, 4, none⟩ = some (.bool d) ∧ cur.cell? ⟨q, 5, none⟩ = some (.bool pd) ∧ Below w.heap.size w cur) → Calls Tryd.prog 85 #[.pointer (some ⟨a, 0, none⟩), .pointer (some ⟨p, 0, none⟩)] cur fun e w' => e = .returned (.bool (decide (cmpVer M1 m1 t1 u1 M2 m2 t2 u2 < 0))) ∧ Below cur.heap.size cur w' :=
  fun cur h => LessThan_at M1 m1 t1 u1 v1 M2 m2 t2 u2 v2 a p cur (VofS ha h) (CofS hp h) (GofS hG0 h) s1 s2
 generalize cmpVer M1 m1 t1 u1 M2 m2 t2 u2 = c at L ⊢
 go_enter Tryd.func152, Tryd.ntmps152
 go_upto_region 1 with fail
 go_cut [16] (fun vv wx => vv = .bool (!openB pre u1) ∧ Aside0 (wx.cell? ⟨a, 0, none⟩ = some (.int .u64 M1) ∧ wx.cell? ⟨a, 1, none⟩ = some (.int .u64 m1) ∧ wx.cell? ⟨a, 2, none⟩ = some (.int .u64 t1) ∧ wx.cell? ⟨a, 3, none⟩ = some (.string u1) ∧ wx.cell? ⟨a, 4, none⟩ = some (.string v1) ∧ wx.cell? ⟨a, 5, none⟩ = some (.string ⟨#[]⟩) ∧ wx.cell? ⟨p, 0, none⟩ = some (.int .u64 M2) ∧ wx.cell? ⟨p, 1, none⟩ = some (.int .u64 m2) ∧ wx.cell? ⟨p, 2, none⟩ = some (.int .u64 t2) ∧ wx.cell? ⟨p, 3, none⟩ = some (.string u2) ∧ wx.cell? ⟨p, 4, none⟩ = some (.string v2) ∧ wx.cell? ⟨p, 5, none⟩ = some (.string ⟨#[]⟩) ∧ wx.cell? ⟨q, 0, none⟩ = some (.pointer (some ⟨p, 0, none⟩)) ∧ wx.cell? ⟨q, 1, none⟩ = some (.string ⟨#[]⟩) ∧ wx.cell? ⟨q, 2, none⟩ = some (.string s) ∧ wx.cell? ⟨q, 3, none⟩ = some (.bool md) ∧ wx.cell? ⟨q, 4, none⟩ = some (.bool d) ∧ wx.cell? ⟨q, 5, none⟩ = some (.bool pd) ∧ Below w.heap.size w wx))
 case first =>
  cases hu : u1.toList.isEmpty <;> cases pre
  all_goals
   go_wp2_with (first | (go_at_call 132; (with_reducible refine (Major_any _ _ _ _ _ _ _).mono ?_); rintro e wn ⟨rfl, hb⟩; have hS := keepK ha hp hq (by assumption) hb) | (go_at_call 133; (with_reducible refine (Minor_any _ _ _ _ _ _ _).mono ?_); rintro e wn ⟨rfl, hb⟩; have hS := keepK ha hp hq (by assumption) hb) | (go_at_call 134; (with_reducible refine (Patch_any _ _ _ _ _ _ _).mono ?_); rintro e wn ⟨rfl, hb⟩; have hS := keepK ha hp hq (by assumption) hb) | (go_at_call 135; (with_reducible refine (Prerelease_any _ _ _ _ _ _ _).mono ?_); rintro e wn ⟨rfl, hb⟩; have hS := keepK ha hp hq (by assumption) hb))
   go_meet
   case rel => exact ⟨by first | rfl | (unfold openB; rw [hu]; rfl), Aside0.mk (by assumption)⟩
 case rest =>
 obtain ⟨rfl, hA1⟩ := hcut
 have hS1 := hA1.out
 clear hA1
 cases ho : openB pre u1
 ·
  rw [Bool.not_false] at *
  go_wp2_with (first | (go_at_call 170; (with_reducible refine (errNew_any _ _).mono ?_); rintro e wn ⟨⟨tp9, p9, rfl⟩, hb⟩; have hS := keepK ha hp hq (by assumption) hb))
  go_ret2
  exact ⟨⟨_, congrArg (fun b => Ending.returned (.tuple #[.bool b, _])) (by rw [ho]; rfl)⟩, lastB (by assumption)⟩
 rw [Bool.not_true] at *
 cases hl : decide (c < 0)
 case true =>
  rw [hl] at L
  go_wp2_with (first | (go_at_call 85; (with_reducible refine (L _ ?_).mono ?_); assumption; rintro e wn ⟨rfl, hb⟩; have hS := keepK ha hp hq (by assumption) hb) | (go_at_call 170; (with_reducible refine (errNew_any _ _).mono ?_); rintro e wn ⟨⟨tp9, p9, rfl⟩, hb⟩; have hS := keepK ha hp hq (by assumption) hb))
  go_ret2
  exact ⟨⟨_, congrArg (fun b => Ending.returned (.tuple #[.bool b, _])) (by rw [ho, tildeB, hl]; rfl)⟩, lastB (by assumption)⟩
 rw [hl] at L
 go_upto_region 5 with (first | (go_at_call 85; (with_reducible refine (L _ ?_).mono ?_); assumption; rintro e wn ⟨rfl, hb⟩; have hS := keepK ha hp hq (by assumption) hb))
 go_cut [66] (fun vv wx => vv = .bool (M2 == 0 && m2 == 0 && t2 == 0 && !md && !pd) ∧ Aside0 (wx.cell? ⟨a, 0, none⟩ = some (.int .u64 M1) ∧ wx.cell? ⟨a, 1, none⟩ = some (.int .u64 m1) ∧ wx.cell? ⟨a, 2, none⟩ = some (.int .u64 t1) ∧ wx.cell? ⟨a, 3, none⟩ = some (.string u1) ∧ wx.cell? ⟨a, 4, none⟩ = some (.string v1) ∧ wx.cell? ⟨a, 5, none⟩ = some (.string ⟨#[]⟩) ∧ wx.cell? ⟨p, 0, none⟩ = some (.int .u64 M2) ∧ wx.cell? ⟨p, 1, none⟩ = some (.int .u64 m2) ∧ wx.cell? ⟨p, 2, none⟩ = some (.int .u64 t2) ∧ wx.cell? ⟨p, 3, none⟩ = some (.string u2) ∧ wx.cell? ⟨p, 4, none⟩ = some (.string v2) ∧ wx.cell? ⟨p, 5, none⟩ = some (.string ⟨#[]⟩) ∧ wx.cell? ⟨q, 0, none⟩ = some (.pointer (some ⟨p, 0, none⟩)) ∧ wx.cell? ⟨q, 1, none⟩ = some (.string ⟨#[]⟩) ∧ wx.cell? ⟨q, 2, none⟩ = some (.string s) ∧ wx.cell? ⟨q, 3, none⟩ = some (.bool md) ∧ wx.cell? ⟨q, 4, none⟩ = some (.bool d) ∧ wx.cell? ⟨q, 5, none⟩ = some (.bool pd) ∧ Below w.heap.size w wx))
 case first =>
  cases h0 : (M2 == 0)
  case' true => cases h1 : (m2 == 0)
  case' true.true => cases h2 : (t2 == 0)
  case' true.true.true => cases md
  case' true.true.true.false => cases pd
  all_goals
   go_wp2_with (first | (go_at_call 132; (with_reducible refine (Major_any _ _ _ _ _ _ _).mono ?_); rintro e wn ⟨rfl, hb⟩; have hS := keepK ha hp hq (by assumption) hb) | (go_at_call 133; (with_reducible refine (Minor_any _ _ _ _ _ _ _).mono ?_); rintro e wn ⟨rfl, hb⟩; have hS := keepK ha hp hq (by assumption) hb) | (go_at_call 134; (with_reducible refine (Patch_any _ _ _ _ _ _ _).mono ?_); rintro e wn ⟨rfl, hb⟩; have hS := keepK ha hp hq (by assumption) hb) | (go_at_call 135; (with_reducible refine (Prerelease_any _ _ _ _ _ _ _).mono ?_); rintro e wn ⟨rfl, hb⟩; have hS := keepK ha hp hq (by assumption) hb))
   go_meet
   case rel => exact ⟨by first | rfl | (simp only [h0]; rfl) | (simp only [h0, h1]; rfl) | (simp only [h0, h1, h2]; rfl), Aside0.mk (by assumption)⟩
 case rest =>
 obtain ⟨rfl, hA2⟩ := hcut
 have hS2 := hA2.out
 clear hA2
 cases hz : (M2 == 0 && m2 == 0 && t2 == 0 && !md && !pd)
 case true =>
  go_wp2_with (first | (go_at_call 170; (with_reducible refine (errNew_any _ _).mono ?_); rintro e wn ⟨⟨tp9, p9, rfl⟩, hb⟩; have hS := keepK ha hp hq (by assumption) hb))
  go_ret2
  exact ⟨⟨_, congrArg (fun b => Ending.returned (.tuple #[.bool b, _])) (by rw [ho, tildeB, hl, hz]; rfl)⟩, lastB (by assumption)⟩
 go_upto_region 7 with fail
 go_cut [78] (fun vv wx => vv = .bool (M1 != M2) ∧ Aside0 (wx.cell? ⟨a, 0, none⟩ = some (.int .u64 M1) ∧ wx.cell? ⟨a, 1, none⟩ = some (.int .u64 m1) ∧ wx.cell? ⟨a, 2, none⟩ = some (.int .u64 t1) ∧ wx.cell? ⟨a, 3, none⟩ = some (.string u1) ∧ wx.cell? ⟨a, 4, none⟩ = some (.string v1) ∧ wx.cell? ⟨a, 5, none⟩ = some (.string ⟨#[]⟩) ∧ wx.cell? ⟨p, 0, none⟩ = some (.int .u64 M2) ∧ wx.cell? ⟨p, 1, none⟩ = some (.int .u64 m2) ∧ wx.cell? ⟨p, 2, none⟩ = some (.int .u64 t2) ∧ wx.cell? ⟨p, 3, none⟩ = some (.string u2) ∧ wx.cell? ⟨p, 4, none⟩ = some (.string v2) ∧ wx.cell? ⟨p, 5, none⟩ = some (.string ⟨#[]⟩) ∧ wx.cell? ⟨q, 0, none⟩ = some (.pointer (some ⟨p, 0, none⟩)) ∧ wx.cell? ⟨q, 1, none⟩ = some (.string ⟨#[]⟩) ∧ wx.cell? ⟨q, 2, none⟩ = some (.string s) ∧ wx.cell? ⟨q, 3, none⟩ = some (.bool md) ∧ wx.cell? ⟨q, 4, none⟩ = some (.bool d) ∧ wx.cell? ⟨q, 5, none⟩ = some (.bool pd) ∧ Below w.heap.size w wx))
 case first =>
  (first | (go_region_held3 (fun w' => w'.cell? ⟨a, 0, none⟩ = some (.int .u64 M1) ∧ w'.cell? ⟨a, 1, none⟩ = some (.int .u64 m1) ∧ w'.cell? ⟨a, 2, none⟩ = some (.int .u64 t1) ∧ w'.cell? ⟨a, 3, none⟩ = some (.string u1) ∧ w'.cell? ⟨a, 4, none⟩ = some (.string v1) ∧ w'.cell? ⟨a, 5, none⟩ = some (.string ⟨#[]⟩) ∧ w'.cell? ⟨p, 0, none⟩ = some (.int .u64 M2) ∧ w'.cell? ⟨p, 1, none⟩ = some (.int .u64 m2) ∧ w'.cell? ⟨p, 2, none⟩ = some (.int .u64 t2) ∧ w'.cell? ⟨p, 3, none⟩ = some (.string u2) ∧ w'.cell? ⟨p, 4, none⟩ = some (.string v2) ∧ w'.cell? ⟨p, 5, none⟩ = some (.string ⟨#[]⟩) ∧ w'.cell? ⟨q, 0, none⟩ = some (.pointer (some ⟨p, 0, none⟩)) ∧ w'.cell? ⟨q, 1, none⟩ = some (.string ⟨#[]⟩) ∧ w'.cell? ⟨q, 2, none⟩ = some (.string s) ∧ w'.cell? ⟨q, 3, none⟩ = some (.bool md) ∧ w'.cell? ⟨q, 4, none⟩ = some (.bool d) ∧ w'.cell? ⟨q, 5, none⟩ = some (.bool pd) ∧ Below w.heap.size w w') (first | exact keepKd (by assumption) | exact keepK ha hp hq (by assumption) (by assumption) | go_keep) (first | (go_at_call 132; (with_reducible refine (Major_any _ _ _ _ _ _ _).mono ?_); rintro e wn ⟨rfl, hb⟩) | (go_at_call 133; (with_reducible refine (Minor_any _ _ _ _ _ _ _).mono ?_); rintro e wn ⟨rfl, hb⟩) | (go_at_call 134; (with_reducible refine (Patch_any _ _ _ _ _ _ _).mono ?_); rintro e wn ⟨rfl, hb⟩) | (go_at_call 135; (with_reducible refine (Prerelease_any _ _ _ _ _ _ _).mono ?_); rintro e wn ⟨rfl, hb⟩))) | fail)
  go_wp2_with fail
  go_meet
  case rel => exact ⟨rfl, Aside0.mk (by assumption)⟩
 case rest =>
 obtain ⟨rfl, hA3⟩ := hcut
 have hS3 := hA3.out
 clear hA3
 cases hm : (M1 != M2)
 case true =>
  go_wp2_with (first | (go_at_call 170; (with_reducible refine (errNew_any _ _).mono ?_); rintro e wn ⟨⟨tp9, p9, rfl⟩, hb⟩; have hS := keepK ha hp hq (by assumption) hb))
  go_ret2
  exact ⟨⟨_, congrArg (fun b => Ending.returned (.tuple #[.bool b, _])) (by rw [ho, tildeB, hl, hz, beq_of hm]; rfl)⟩, lastB (by assumption)⟩
 go_upto_region 9 with fail
 go_cut [98] (fun vv wx => vv = .bool ((m1 != m2) && !md) ∧ Aside0 (wx.cell? ⟨a, 0, none⟩ = some (.int .u64 M1) ∧ wx.cell? ⟨a, 1, none⟩ = some (.int .u64 m1) ∧ wx.cell? ⟨a, 2, none⟩ = some (.int .u64 t1) ∧ wx.cell? ⟨a, 3, none⟩ = some (.string u1) ∧ wx.cell? ⟨a, 4, none⟩ = some (.string v1) ∧ wx.cell? ⟨a, 5, none⟩ = some (.string ⟨#[]⟩) ∧ wx.cell? ⟨p, 0, none⟩ = some (.int .u64 M2) ∧ wx.cell? ⟨p, 1, none⟩ = some (.int .u64 m2) ∧ wx.cell? ⟨p, 2, none⟩ = some (.int .u64 t2) ∧ wx.cell? ⟨p, 3, none⟩ = some (.string u2) ∧ wx.cell? ⟨p, 4, none⟩ = some (.string v2) ∧ wx.cell? ⟨p, 5, none⟩ = some (.string ⟨#[]⟩) ∧ wx.cell? ⟨q, 0, none⟩ = some (.pointer (some ⟨p, 0, none⟩)) ∧ wx.cell? ⟨q, 1, none⟩ = some (.string ⟨#[]⟩) ∧ wx.cell? ⟨q, 2, none⟩ = some (.string s) ∧ wx.cell? ⟨q, 3, none⟩ = some (.bool md) ∧ wx.cell? ⟨q, 4, none⟩ = some (.bool d) ∧ wx.cell? ⟨q, 5, none⟩ = some (.bool pd) ∧ Below w.heap.size w wx))
 case first =>
  cases hn : (m1 != m2)
  case false =>
   refine wp_region_held_drew (S := (fun w' => w'.cell? ⟨a, 0, none⟩ = some (.int .u64 M1) ∧ w'.cell? ⟨a, 1, none⟩ = some (.int .u64 m1) ∧ w'.cell? ⟨a, 2, none⟩ = some (.int .u64 t1) ∧ w'.cell? ⟨a, 3, none⟩ = some (.string u1) ∧ w'.cell? ⟨a, 4, none⟩ = some (.string v1) ∧ w'.cell? ⟨a, 5, none⟩ = some (.string ⟨#[]⟩) ∧ w'.cell? ⟨p, 0, none⟩ = some (.int .u64 M2) ∧ w'.cell? ⟨p, 1, none⟩ = some (.int .u64 m2) ∧ w'.cell? ⟨p, 2, none⟩ = some (.int .u64 t2) ∧ w'.cell? ⟨p, 3, none⟩ = some (.string u2) ∧ w'.cell? ⟨p, 4, none⟩ = some (.string v2) ∧ w'.cell? ⟨p, 5, none⟩ = some (.string ⟨#[]⟩) ∧ w'.cell? ⟨q, 0, none⟩ = some (.pointer (some ⟨p, 0, none⟩)) ∧ w'.cell? ⟨q, 1, none⟩ = some (.string ⟨#[]⟩) ∧ w'.cell? ⟨q, 2, none⟩ = some (.string s) ∧ w'.cell? ⟨q, 3, none⟩ = some (.bool md) ∧ w'.cell? ⟨q, 4, none⟩ = some (.bool d) ∧ w'.cell? ⟨q, 5, none⟩ = some (.bool pd) ∧ Below w.heap.size w w')) (by kernel_rfl) ?_ (fun hHeld => ?_)
   ·
    exact keepKd (by assumption)
   refine wpAnyH_take (i := 0) (oi := { dst := some 80, op := Go.Op.move (Go.Operand.tmp 0), type := 79, pos := "constraints.go:474", after := #[], guard := none }) (v := ?_) rfl (by kernel_rfl) (by kernel_rfl) (by kernel_rfl) (fun _ _ _ h => h) (Or.inl ⟨by rfl, ?_⟩) (by assumption) ?_
   rotate_left
   ·
    (intro wx hSw; (try dsimp only at hSw); go_simp; first | done | with_reducible rfl)
   try simp only [Act.put, putA, putZ, putS]
   refine wpAnyH_take (i := 1) (oi := { dst := some 81, op := Go.Op.nilCheck (Go.Operand.tmp 80), type := 0, pos := "constraints.go:474", after := #[{ on := 0, ground := Go.Ground.data }], guard := none }) (v := ?_) rfl (by kernel_rfl) (by kernel_rfl) (by kernel_rfl) (fun _ _ _ h => h) (Or.inl ⟨by rfl, ?_⟩) (by assumption) ?_
   rotate_left
   ·
    (intro wx hSw; (try dsimp only at hSw); go_simp; first | done | with_reducible rfl)
   try simp only [Act.put, putA, putZ, putS]
   refine wpAnyH_take (i := 2) (oi := { dst := some 82, op := Go.Op.load 97 (Go.Operand.tmp 81), type := 97, pos := "constraints.go:474", after := #[{ on := 1, ground := Go.Ground.data }], guard := none }) (v := ?_) rfl (by kernel_rfl) (by kernel_rfl) (by kernel_rfl) (fun _ _ _ h => h) (Or.inl ⟨by rfl, ?_⟩) (by assumption) ?_
   rotate_left
   ·
    (intro wx hSw; (try dsimp only at hSw); go_simp; first | done | with_reducible rfl)
   try simp only [Act.put, putA, putZ, putS]
   refine wpAnyH_take (i := 4) (oi := { dst := some 84, op := Go.Op.move (Go.Operand.tmp 1), type := 133, pos := "constraints.go:474", after := #[], guard := none }) (v := ?_) rfl (by kernel_rfl) (by kernel_rfl) (by kernel_rfl) (fun _ _ _ h => h) (Or.inl ⟨by rfl, ?_⟩) (by assumption) ?_
   rotate_left
   ·
    (intro wx hSw; (try dsimp only at hSw); go_simp; first | done | with_reducible rfl)
   try simp only [Act.put, putA, putZ, putS]
   refine wpAnyH_take (i := 5) (oi := { dst := some 85, op := Go.Op.nilCheck (Go.Operand.tmp 84), type := 0, pos := "constraints.go:474", after := #[{ on := 4, ground := Go.Ground.data }], guard := none }) (v := ?_) rfl (by kernel_rfl) (by kernel_rfl) (by kernel_rfl) (fun _ _ _ h => h) (Or.inl ⟨by rfl, ?_⟩) (by assumption) ?_
   rotate_left
   ·
    (intro wx hSw; (try dsimp only at hSw); go_simp; first | done | with_reducible rfl)
   try simp only [Act.put, putA, putZ, putS]
   refine wpAnyH_take (i := 6) (oi := { dst := some 86, op := Go.Op.fieldAddr 155 (Go.Operand.tmp 85) 0, type := 0, pos := "constraints.go:474", after := #[{ on := 5, ground := Go.Ground.data }], guard := none }) (v := ?_) rfl (by kernel_rfl) (by kernel_rfl) (by kernel_rfl) (fun _ _ _ h => h) (Or.inl ⟨by rfl, ?_⟩) (by assumption) ?_
   rotate_left
   ·
    (intro wx hSw; (try dsimp only at hSw); go_simp; first | done | with_reducible rfl)
   try simp only [Act.put, putA, putZ, putS]
   refine wpAnyH_take (i := 7) (oi := { dst := some 87, op := Go.Op.load 79 (Go.Operand.tmp 86), type := 79, pos := "constraints.go:474", after := #[{ on := 6, ground := Go.Ground.data }], guard := none }) (v := ?_) rfl (by kernel_rfl) (by kernel_rfl) (by kernel_rfl) (fun _ _ _ h => h) (Or.inl ⟨by rfl, ?_⟩) (by assumption) ?_
   rotate_left
   ·
    (intro wx hSw; (try dsimp only at hSw); go_simp; first | done | with_reducible rfl)
   try simp only [Act.put, putA, putZ, putS]
   refine wpAnyH_take (i := 8) (oi := { dst := some 88, op := Go.Op.nilCheck (Go.Operand.tmp 87), type := 0, pos := "constraints.go:474", after := #[{ on := 7, ground := Go.Ground.data }], guard := none }) (v := ?_) rfl (by kernel_rfl) (by kernel_rfl) (by kernel_rfl) (fun _ _ _ h => h) (Or.inl ⟨by rfl, ?_⟩) (by assumption) ?_
   rotate_left
   ·
    (intro wx hSw; (try dsimp only at hSw); go_simp; first | done | with_reducible rfl)
   try simp only [Act.put, putA, putZ, putS]
   refine wpAnyH_take (i := 9) (oi := { dst := some 89, op := Go.Op.load 97 (Go.Operand.tmp 88), type := 97, pos := "constraints.go:474", after := #[{ on := 8, ground := Go.Ground.data }], guard := none }) (v := ?_) rfl (by kernel_rfl) (by kernel_rfl) (by kernel_rfl) (fun _ _ _ h => h) (Or.inl ⟨by rfl, ?_⟩) (by assumption) ?_
   rotate_left
   ·
    (intro wx hSw; (try dsimp only at hSw); go_simp; first | done | with_reducible rfl)
   try simp only [Act.put, putA, putZ, putS]
   refine wpAnyH_ready (rs := [3]) (by kernel_rfl) (by simp) ?_
   refine AllReadyH.cons (o := { dst := some 83, op := Go.Op.call { callee := Go.Callee.value (Go.Operand.func 133), args := #[Go.Operand.tmp 82], argTypes := #[79] }, type := 27, pos := "constraints.go:474", after := #[{ on := 2, ground := Go.Ground.data }], guard := none }) rfl (fun K hK => ?_) AllReadyH.nil
   go_simp
   (first | (go_at_call 132; (with_reducible refine (Major_any _ _ _ _ _ _ _).mono ?_); rintro e wn ⟨rfl, hb⟩) | (go_at_call 133; (with_reducible refine (Minor_any _ _ _ _ _ _ _).mono ?_); rintro e wn ⟨rfl, hb⟩) | (go_at_call 134; (with_reducible refine (Patch_any _ _ _ _ _ _ _).mono ?_); rintro e wn ⟨rfl, hb⟩) | (go_at_call 135; (with_reducible refine (Prerelease_any _ _ _ _ _ _ _).mono ?_); rintro e wn ⟨rfl, hb⟩))
   refine hK.out _ _ ?_ (fun hHeld => ?_)
   ·
    exact keepK ha hp hq (by assumption) (by assumption)
   clear hK K
   try simp only [Act.put, putA, putZ, putS]
   refine wpAnyH_ready (rs := [10]) (by kernel_rfl) (by simp) ?_
   refine AllReadyH.cons (o := { dst := some 90, op := Go.Op.call { callee := Go.Callee.value (Go.Operand.func 133), args := #[Go.Operand.tmp 89], argTypes := #[79] }, type := 27, pos := "constraints.go:474", after := #[{ on := 9, ground := Go.Ground.data }, { on := 3, ground := Go.Ground.chain }], guard := none }) rfl (fun K hK => ?_) AllReadyH.nil
   go_simp
   (first | (go_at_call 132; (with_reducible refine (Major_any _ _ _ _ _ _ _).mono ?_); rintro e wn ⟨rfl, hb⟩) | (go_at_call 133; (with_reducible refine (Minor_any _ _ _ _ _ _ _).mono ?_); rintro e wn ⟨rfl, hb⟩) | (go_at_call 134; (with_reducible refine (Patch_any _ _ _ _ _ _ _).mono ?_); rintro e wn ⟨rfl, hb⟩) | (go_at_call 135; (with_reducible refine (Prerelease_any _ _ _ _ _ _ _).mono ?_); rintro e wn ⟨rfl, hb⟩))
   refine hK.out _ _ ?_ (fun hHeld => ?_)
   ·
    exact keepK ha hp hq (by assumption) (by assumption)
   clear hK K
   try simp only [Act.put, putA, putZ, putS]
   refine wpAnyH_take (i := 11) (oi := { dst := some 91, op := Go.Op.binOp Go.BinOp.neq 27 (Go.Operand.tmp 83) (Go.Operand.tmp 90) 27, type := 4, pos := "constraints.go:474", after := #[{ on := 3, ground := Go.Ground.data }, { on := 10, ground := Go.Ground.data }], guard := none }) (v := ?_) rfl (by kernel_rfl) (by kernel_rfl) (by kernel_rfl) (fun _ _ _ h => h) (Or.inl ⟨by rfl, ?_⟩) (by assumption) ?_
   rotate_left
   ·
    (intro wx hSw; (try dsimp only at hSw); go_simp; first | done | with_reducible rfl)
   try simp only [Act.put, putA, putZ, putS]
   refine wpAnyH_take (i := 12) (oi := { dst := some 92, op := Go.Op.move (Go.Operand.tmp 91), type := 4, pos := "constraints.go:474", after := #[{ on := 11, ground := Go.Ground.data }, { on := 10, ground := Go.Ground.chain }], guard := none }) (v := ?_) rfl (by kernel_rfl) (by kernel_rfl) (by kernel_rfl) (fun _ _ _ h => h) (Or.inl ⟨by rfl, ?_⟩) (by assumption) ?_
   rotate_left
   ·
    (intro wx hSw; (try dsimp only at hSw); go_simp; first | done | with_reducible rfl)
   try simp only [Act.put, putA, putZ, putS]
   refine wpAnyH_take (i := 13) (oi := { dst := some 93, op := Go.Op.move (Go.Operand.tmp 1), type := 133, pos := "constraints.go:474", after := #[{ on := 12, ground := Go.Ground.guard }], guard := some (12, true) }) (v := undef) rfl (by kernel_rfl) (by kernel_rfl) (by kernel_rfl) (fun _ _ _ h => h) (Or.inr ⟨by rfl, rfl⟩) (by assumption) ?_
   try simp only [Act.put, putA, putZ, putS]
   refine wpAnyH_take (i := 14) (oi := { dst := some 94, op := Go.Op.nilCheck (Go.Operand.tmp 93), type := 0, pos := "constraints.go:474", after := #[{ on := 13, ground := Go.Ground.data }, { on := 12, ground := Go.Ground.guard }], guard := some (12, true) }) (v := undef) rfl (by kernel_rfl) (by kernel_rfl) (by kernel_rfl) (fun _ _ _ h => h) (Or.inr ⟨by rfl, rfl⟩) (by assumption) ?_
   try simp only [Act.put, putA, putZ, putS]
   refine wpAnyH_take (i := 15) (oi := { dst := some 95, op := Go.Op.fieldAddr 155 (Go.Operand.tmp 94) 3, type := 0, pos := "constraints.go:474", after := #[{ on := 14, ground := Go.Ground.data }, { on := 12, ground := Go.Ground.guard }], guard := some (12, true) }) (v := undef) rfl (by kernel_rfl) (by kernel_rfl) (by kernel_rfl) (fun _ _ _ h => h) (Or.inr ⟨by rfl, rfl⟩) (by assumption) ?_
   try simp only [Act.put, putA, putZ, putS]
   refine wpAnyH_take (i := 16) (oi := { dst := some 96, op := Go.Op.load 4 (Go.Operand.tmp 95), type := 4, pos := "constraints.go:474", after := #[{ on := 15, ground := Go.Ground.data }, { on := 12, ground := Go.Ground.guard }], guard := some (12, true) }) (v := undef) rfl (by kernel_rfl) (by kernel_rfl) (by kernel_rfl) (fun _ _ _ h => h) (Or.inr ⟨by rfl, rfl⟩) (by assumption) ?_
   try simp only [Act.put, putA, putZ, putS]
   refine wpAnyH_take (i := 17) (oi := { dst := some 97, op := Go.Op.unOp Go.UnOp.not 4 (Go.Operand.tmp 96), type := 4, pos := "constraints.go:474", after := #[{ on := 16, ground := Go.Ground.data }, { on := 12, ground := Go.Ground.guard }], guard := some (12, true) }) (v := undef) rfl (by kernel_rfl) (by kernel_rfl) (by kernel_rfl) (fun _ _ _ h => h) (Or.inr ⟨by rfl, rfl⟩) (by assumption) ?_
   try simp only [Act.put, putA, putZ, putS]
   refine wpAnyH_take (i := 18) (oi := { dst := some 98, op := Go.Op.pick (Go.Operand.tmp 92) (Go.Operand.tmp 97) (Go.Operand.const (Go.Value.bool false)), type := 4, pos := "constraints.go:474", after := #[{ on := 12, ground := Go.Ground.data }, { on := 17, ground := Go.Ground.data }], guard := none }) (v := ?_) rfl (by kernel_rfl) (by kernel_rfl) (by kernel_rfl) (fun _ _ _ h => h) (Or.inl ⟨by rfl, ?_⟩) (by assumption) ?_
   rotate_left
   ·
    (intro wx hSw; (try dsimp only at hSw); go_simp; first | done | with_reducible rfl)
   try simp only [Act.put, putA, putZ, putS]
   refine wpAnyH_done (by kernel_rfl) ?_ _
   go_wp2_with fail
   go_meet
   case rel => exact ⟨by first | rfl | (rw [hn]; rfl), Aside0.mk (by assumption)⟩
  case true =>
   refine wp_region_held_drew (S := (fun w' => w'.cell? ⟨a, 0, none⟩ = some (.int .u64 M1) ∧ w'.cell? ⟨a, 1, none⟩ = some (.int .u64 m1) ∧ w'.cell? ⟨a, 2, none⟩ = some (.int .u64 t1) ∧ w'.cell? ⟨a, 3, none⟩ = some (.string u1) ∧ w'.cell? ⟨a, 4, none⟩ = some (.string v1) ∧ w'.cell? ⟨a, 5, none⟩ = some (.string ⟨#[]⟩) ∧ w'.cell? ⟨p, 0, none⟩ = some (.int .u64 M2) ∧ w'.cell? ⟨p, 1, none⟩ = some (.int .u64 m2) ∧ w'.cell? ⟨p, 2, none⟩ = some (.int .u64 t2) ∧ w'.cell? ⟨p, 3, none⟩ = some (.string u2) ∧ w'.cell? ⟨p, 4, none⟩ = some (.string v2) ∧ w'.cell? ⟨p, 5, none⟩ = some (.string ⟨#[]⟩) ∧ w'.cell? ⟨q, 0, none⟩ = some (.pointer (some ⟨p, 0, none⟩)) ∧ w'.cell? ⟨q, 1, none⟩ = some (.string ⟨#[]⟩) ∧ w'.cell? ⟨q, 2, none⟩ = some (.string s) ∧ w'.cell? ⟨q, 3, none⟩ = some (.bool md) ∧ w'.cell? ⟨q, 4, none⟩ = some (.bool d) ∧ w'.cell? ⟨q, 5, none⟩ = some (.bool pd) ∧ Below w.heap.size w w')) (by kernel_rfl) ?_ (fun hHeld => ?_)
   ·
    exact keepKd (by assumption)
   refine wpAnyH_take (i := 0) (oi := { dst := some 80, op := Go.Op.move (Go.Operand.tmp 0), type := 79, pos := "constraints.go:474", after := #[], guard := none }) (v := ?_) rfl (by kernel_rfl) (by kernel_rfl) (by kernel_rfl) (fun _ _ _ h => h) (Or.inl ⟨by rfl, ?_⟩) (by assumption) ?_
   rotate_left
   ·
    (intro wx hSw; (try dsimp only at hSw); go_simp; first | done | with_reducible rfl)
   try simp only [Act.put, putA, putZ, putS]
   refine wpAnyH_take (i := 1) (oi := { dst := some 81, op := Go.Op.nilCheck (Go.Operand.tmp 80), type := 0, pos := "constraints.go:474", after := #[{ on := 0, ground := Go.Ground.data }], guard := none }) (v := ?_) rfl (by kernel_rfl) (by kernel_rfl) (by kernel_rfl) (fun _ _ _ h => h) (Or.inl ⟨by rfl, ?_⟩) (by assumption) ?_
   rotate_left
   ·
    (intro wx hSw; (try dsimp only at hSw); go_simp; first | done | with_reducible rfl)
   try simp only [Act.put, putA, putZ, putS]
   refine wpAnyH_take (i := 2) (oi := { dst := some 82, op := Go.Op.load 97 (Go.Operand.tmp 81), type := 97, pos := "constraints.go:474", after := #[{ on := 1, ground := Go.Ground.data }], guard := none }) (v := ?_) rfl (by kernel_rfl) (by kernel_rfl) (by kernel_rfl) (fun _ _ _ h => h) (Or.inl ⟨by rfl, ?_⟩) (by assumption) ?_
   rotate_left
   ·
    (intro wx hSw; (try dsimp only at hSw); go_simp; first | done | with_reducible rfl)
   try simp only [Act.put, putA, putZ, putS]
   refine wpAnyH_take (i := 4) (oi := { dst := some 84, op := Go.Op.move (Go.Operand.tmp 1), type := 133, pos := "constraints.go:474", after := #[], guard := none }) (v := ?_) rfl (by kernel_rfl) (by kernel_rfl) (by kernel_rfl) (fun _ _ _ h => h) (Or.inl ⟨by rfl, ?_⟩) (by assumption) ?_
   rotate_left
   ·
    (intro wx hSw; (try dsimp only at hSw); go_simp; first | done | with_reducible rfl)
   try simp only [Act.put, putA, putZ, putS]
   refine wpAnyH_take (i := 5) (oi := { dst := some 85, op := Go.Op.nilCheck (Go.Operand.tmp 84), type := 0, pos := "constraints.go:474", after := #[{ on := 4, ground := Go.Ground.data }], guard := none }) (v := ?_) rfl (by kernel_rfl) (by kernel_rfl) (by kernel_rfl) (fun _ _ _ h => h) (Or.inl ⟨by rfl, ?_⟩) (by assumption) ?_
   rotate_left
   ·
    (intro wx hSw; (try dsimp only at hSw); go_simp; first | done | with_reducible rfl)
   try simp only [Act.put, putA, putZ, putS]
   refine wpAnyH_take (i := 6) (oi := { dst := some 86, op := Go.Op.fieldAddr 155 (Go.Operand.tmp 85) 0, type := 0, pos := "constraints.go:474", after := #[{ on := 5, ground := Go.Ground.data }], guard := none }) (v := ?_) rfl (by kernel_rfl) (by kernel_rfl) (by kernel_rfl) (fun _ _ _ h => h) (Or.inl ⟨by rfl, ?_⟩) (by assumption) ?_
   rotate_left
   ·
    (intro wx hSw; (try dsimp only at hSw); go_simp; first | done | with_reducible rfl)
   try simp only [Act.put, putA, putZ, putS]
   refine wpAnyH_take (i := 7) (oi := { dst := some 87, op := Go.Op.load 79 (Go.Operand.tmp 86), type := 79, pos := "constraints.go:474", after := #[{ on := 6, ground := Go.Ground.data }], guard := none }) (v := ?_) rfl (by kernel_rfl) (by kernel_rfl) (by kernel_rfl) (fun _ _ _ h => h) (Or.inl ⟨by rfl, ?_⟩) (by assumption) ?_
   rotate_left
   ·
    (intro wx hSw; (try dsimp only at hSw); go_simp; first | done | with_reducible rfl)
   try simp only [Act.put, putA, putZ, putS]
   refine wpAnyH_take (i := 8) (oi := { dst := some 88, op := Go.Op.nilCheck (Go.Operand.tmp 87), type := 0, pos := "constraints.go:474", after := #[{ on := 7, ground := Go.Ground.data }], guard := none }) (v := ?_) rfl (by kernel_rfl) (by kernel_rfl) (by kernel_rfl) (fun _ _ _ h => h) (Or.inl ⟨by rfl, ?_⟩) (by assumption) ?_
   rotate_left
   ·
    (intro wx hSw; (try dsimp only at hSw); go_simp; first | done | with_reducible rfl)
   try simp only [Act.put, putA, putZ, putS]
   refine wpAnyH_take (i := 9) (oi := { dst := some 89, op := Go.Op.load 97 (Go.Operand.tmp 88), type := 97, pos := "constraints.go:474", after := #[{ on := 8, ground := Go.Ground.data }], guard := none }) (v := ?_) rfl (by kernel_rfl) (by kernel_rfl) (by kernel_rfl) (fun _ _ _ h => h) (Or.inl ⟨by rfl, ?_⟩) (by assumption) ?_
   rotate_left
   ·
    (intro wx hSw; (try dsimp only at hSw); go_simp; first | done | with_reducible rfl)
   try simp only [Act.put, putA, putZ, putS]
   refine wpAnyH_ready (rs := [3]) (by kernel_rfl) (by simp) ?_
   refine AllReadyH.cons (o := { dst := some 83, op := Go.Op.call { callee := Go.Callee.value (Go.Operand.func 133), args := #[Go.Operand.tmp 82], argTypes := #[79] }, type := 27, pos := "constraints.go:474", after := #[{ on := 2, ground := Go.Ground.data }], guard := none }) rfl (fun K hK => ?_) AllReadyH.nil
   go_simp
   (first | (go_at_call 132; (with_reducible refine (Major_any _ _ _ _ _ _ _).mono ?_); rintro e wn ⟨rfl, hb⟩) | (go_at_call 133; (with_reducible refine (Minor_any _ _ _ _ _ _ _).mono ?_); rintro e wn ⟨rfl, hb⟩) | (go_at_call 134; (with_reducible refine (Patch_any _ _ _ _ _ _ _).mono ?_); rintro e wn ⟨rfl, hb⟩) | (go_at_call 135; (with_reducible refine (Prerelease_any _ _ _ _ _ _ _).mono ?_); rintro e wn ⟨rfl, hb⟩))
   refine hK.out _ _ ?_ (fun hHeld => ?_)
   ·
    exact keepK ha hp hq (by assumption) (by assumption)
   clear hK K
   try simp only [Act.put, putA, putZ, putS]
   refine wpAnyH_ready (rs := [10]) (by kernel_rfl) (by simp) ?_
   refine AllReadyH.cons (o := { dst := some 90, op := Go.Op.call { callee := Go.Callee.value (Go.Operand.func 133), args := #[Go.Operand.tmp 89], argTypes := #[79] }, type := 27, pos := "constraints.go:474", after := #[{ on := 9, ground := Go.Ground.data }, { on := 3, ground := Go.Ground.chain }], guard := none }) rfl (fun K hK => ?_) AllReadyH.nil
   go_simp
   (first | (go_at_call 132; (with_reducible refine (Major_any _ _ _ _ _ _ _).mono ?_); rintro e wn ⟨rfl, hb⟩) | (go_at_call 133; (with_reducible refine (Minor_any _ _ _ _ _ _ _).mono ?_); rintro e wn ⟨rfl, hb⟩) | (go_at_call 134; (with_reducible refine (Patch_any _ _ _ _ _ _ _).mono ?_); rintro e wn ⟨rfl, hb⟩) | (go_at_call 135; (with_reducible refine (Prerelease_any _ _ _ _ _ _ _).mono ?_); rintro e wn ⟨rfl, hb⟩))
   refine hK.out _ _ ?_ (fun hHeld => ?_)
   ·
    exact keepK ha hp hq (by assumption) (by assumption)
   clear hK K
   try simp only [Act.put, putA, putZ, putS]
   refine wpAnyH_take (i := 11) (oi := { dst := some 91, op := Go.Op.binOp Go.BinOp.neq 27 (Go.Operand.tmp 83) (Go.Operand.tmp 90) 27, type := 4, pos := "constraints.go:474", after := #[{ on := 3, ground := Go.Ground.data }, { on := 10, ground := Go.Ground.data }], guard := none }) (v := ?_) rfl (by kernel_rfl) (by kernel_rfl) (by kernel_rfl) (fun _ _ _ h => h) (Or.inl ⟨by rfl, ?_⟩) (by assumption) ?_
   rotate_left
   ·
    (intro wx hSw; (try dsimp only at hSw); go_simp; first | done | with_reducible rfl)
   try simp only [Act.put, putA, putZ, putS]
   refine wpAnyH_take (i := 12) (oi := { dst := some 92, op := Go.Op.move (Go.Operand.tmp 91), type := 4, pos := "constraints.go:474", after := #[{ on := 11, ground := Go.Ground.data }, { on := 10, ground := Go.Ground.chain }], guard := none }) (v := ?_) rfl (by kernel_rfl) (by kernel_rfl) (by kernel_rfl) (fun _ _ _ h => h) (Or.inl ⟨by rfl, ?_⟩) (by assumption) ?_
   rotate_left
   ·
    (intro wx hSw; (try dsimp only at hSw); go_simp; first | done | with_reducible rfl)
   try simp only [Act.put, putA, putZ, putS]
   refine wpAnyH_take (i := 13) (oi := { dst := some 93, op := Go.Op.move (Go.Operand.tmp 1), type := 133, pos := "constraints.go:474", after := #[{ on := 12, ground := Go.Ground.guard }], guard := some (12, true) }) (v := ?_) rfl (by kernel_rfl) (by kernel_rfl) (by kernel_rfl) (fun _ _ _ h => h) (Or.inl ⟨by rfl, ?_⟩) (by assumption) ?_
   rotate_left
   ·
    (intro wx hSw; (try dsimp only at hSw); go_simp; first | done | with_reducible rfl)
   try simp only [Act.put, putA, putZ, putS]
   refine wpAnyH_take (i := 14) (oi := { dst := some 94, op := Go.Op.nilCheck (Go.Operand.tmp 93), type := 0, pos := "constraints.go:474", after := #[{ on := 13, ground := Go.Ground.data }, { on := 12, ground := Go.Ground.guard }], guard := some (12, true) }) (v := ?_) rfl (by kernel_rfl) (by kernel_rfl) (by kernel_rfl) (fun _ _ _ h => h) (Or.inl ⟨by rfl, ?_⟩) (by assumption) ?_
   rotate_left
   ·
    (intro wx hSw; (try dsimp only at hSw); go_simp; first | done | with_reducible rfl)
   try simp only [Act.put, putA, putZ, putS]
   refine wpAnyH_take (i := 15) (oi := { dst := some 95, op := Go.Op.fieldAddr 155 (Go.Operand.tmp 94) 3, type := 0, pos := "constraints.go:474", after := #[{ on := 14, ground := Go.Ground.data }, { on := 12, ground := Go.Ground.guard }], guard := some (12, true) }) (v := ?_) rfl (by kernel_rfl) (by kernel_rfl) (by kernel_rfl) (fun _ _ _ h => h) (Or.inl ⟨by rfl, ?_⟩) (by assumption) ?_
   rotate_left
   ·
    (intro wx hSw; (try dsimp only at hSw); go_simp; first | done | with_reducible rfl)
   try simp only [Act.put, putA, putZ, putS]
   refine wpAnyH_take (i := 16) (oi := { dst := some 96, op := Go.Op.load 4 (Go.Operand.tmp 95), type := 4, pos := "constraints.go:474", after := #[{ on := 15, ground := Go.Ground.data }, { on := 12, ground := Go.Ground.guard }], guard := some (12, true) }) (v := ?_) rfl (by kernel_rfl) (by kernel_rfl) (by kernel_rfl) (fun _ _ _ h => h) (Or.inl ⟨by rfl, ?_⟩) (by assumption) ?_
   rotate_left
   ·
    (intro wx hSw; (try dsimp only at hSw); go_simp; first | done | with_reducible rfl)
   try simp only [Act.put, putA, putZ, putS]
   refine wpAnyH_take (i := 17) (oi := { dst := some 97, op := Go.Op.unOp Go.UnOp.not 4 (Go.Operand.tmp 96), type := 4, pos := "constraints.go:474", after := #[{ on := 16, ground := Go.Ground.data }, { on := 12, ground := Go.Ground.guard }], guard := some (12, true) }) (v := ?_) rfl (by kernel_rfl) (by kernel_rfl) (by kernel_rfl) (fun _ _ _ h => h) (Or.inl ⟨by rfl, ?_⟩) (by assumption) ?_
   rotate_left
   ·
    (intro wx hSw; (try dsimp only at hSw); go_simp; first | done | with_reducible rfl)
   try simp only [Act.put, putA, putZ, putS]
   refine wpAnyH_take (i := 18) (oi := { dst := some 98, op := Go.Op.pick (Go.Operand.tmp 92) (Go.Operand.tmp 97) (Go.Operand.const (Go.Value.bool false)), type := 4, pos := "constraints.go:474", after := #[{ on := 12, ground := Go.Ground.data }, { on := 17, ground := Go.Ground.data }], guard := none }) (v := ?_) rfl (by kernel_rfl) (by kernel_rfl) (by kernel_rfl) (fun _ _ _ h => h) (Or.inl ⟨by rfl, ?_⟩) (by assumption) ?_
   rotate_left
   ·
    (intro wx hSw; (try dsimp only at hSw); go_simp; first | done | with_reducible rfl)
   try simp only [Act.put, putA, putZ, putS]
   refine wpAnyH_done (by kernel_rfl) ?_ _
   go_wp2_with fail
   go_meet
   case rel => exact ⟨by first | rfl | (rw [hn]; rfl), Aside0.mk (by assumption)⟩
 case rest =>
 obtain ⟨rfl, hA4⟩ := hcut
 have hS4 := hA4.out
 clear hA4
 cases hr : ((m1 != m2) && !md)
 case true =>
  go_wp2_with (first | (go_at_call 170; (with_reducible refine (errNew_any _ _).mono ?_); rintro e wn ⟨⟨tp9, p9, rfl⟩, hb⟩; have hS := keepK ha hp hq (by assumption) hb))
  go_ret2
  exact ⟨⟨_, congrArg (fun b => Ending.returned (.tuple #[.bool b, _])) (by rw [ho, tildeB, hl, hz, beq_of hm, last_of hr]; rfl)⟩, lastB (by assumption)⟩
 case false =>
  go_wp2_with (first | (go_at_call 170; (with_reducible refine (errNew_any _ _).mono ?_); rintro e wn ⟨⟨tp9, p9, rfl⟩, hb⟩; have hS := keepK ha hp hq (by assumption) hb))
  go_ret2
  exact ⟨⟨_, congrArg (fun b => Ending.returned (.tuple #[.bool b, _])) (by rw [ho, tildeB, hl, hz, beq_of hm, last_of hr]; rfl)⟩, lastB (by assumption)⟩
end Go.Proofs.YtalpehfjjidfhaaDoor.Hand
