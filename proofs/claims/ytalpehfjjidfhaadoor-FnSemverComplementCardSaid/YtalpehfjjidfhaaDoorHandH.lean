/- What is proved: by hand, the comparison != of constraints, as a plain function of its parts. -/
import Derived.Test.YtalpehfjjidfhaaDoorHandK
import Derived.Test.YtalpehfjjidfhaaDoorHandQ
namespace Go.Proofs.YtalpehfjjidfhaaDoor.Hand
set_option linter.unusedVariables false
set_option linter.unusedSimpArgs false
open Go.RowKit Go.Proofs.YtalpehfjjidfhaaDoorW.PrintWords Sv
/-- What != says of a version that is let in. -/
def notB (c pc M1 m1 t1 : Int) (e1 : Bool) (M2 m2 t2 : Int) (e2 : Bool) (d md pd : Bool) : Bool :=
 if d then if M2 != M1 then true else if (m2 != m1) && !md then true else if md then false else if (t2 != t1) && !pd then true
  else if pd then if !e1 || !e2 then pc != 0 else false else !(decide (c = 0)) else !(decide (c = 0))
set_option maxHeartbeats 4000000 in
set_option maxRecDepth 100000 in
theorem cNE_any (M1 m1 t1 : Int) (u1 v1 : ByteArray) (M2 m2 t2 : Int) (u2 v2 : ByteArray) (s : ByteArray) (d md pd : Bool) (a p q : Nat) (w : World) (hG0 : Gl w) (s1 : u1.size < 8796093022208) (s2 : u2.size < 8796093022208) (hV : VAt w a M1 m1 t1 u1 v1) (hC : VAt w p M2 m2 t2 u2 v2) (hK : KAt w q p s d md pd) (pre : Bool) (hne : a ≠ p) (hA : HAt w a) (hP : HAt w p) :
  Calls Tryd.prog 172 #[.pointer (some ⟨a, 0, none⟩), .pointer (some ⟨q, 0, none⟩), .bool pre] w fun e w' => (∃ ev, e = .returned (.tuple #[.bool (openB pre u1 && notB (cmpVer M1 m1 t1 u1 M2 m2 t2 u2) (MA.cmpPre u1 u2) M1 m1 t1 u1.toList.isEmpty M2 m2 t2 u2.toList.isEmpty d md pd), ev])) ∧ Below w.heap.size w w' := by
 have ha := hV.lt
 have hp := hC.lt
 have hq := hK.lt
 have hS0 := startK hV hC hK
 have Q : ∀ cur : World, Below w.heap.size w cur ∧ VAt cur a M1 m1 t1 u1 v1 ∧ VAt cur p M2 m2 t2 u2 v2 → Calls Tryd.prog 86 #[.pointer (some ⟨a, 0, none⟩), .pointer (some ⟨p, 0, none⟩)] cur fun e w' => e = .returned (.bool (decide (cmpVer M1 m1 t1 u1 M2 m2 t2 u2 = 0))) ∧ Below cur.heap.size cur w' :=
  fun cur h => Equal_at M1 m1 t1 u1 v1 M2 m2 t2 u2 v2 a p cur hne (hA.below h.1) (hP.below h.1) h.2.1 h.2.2 (hG0.below h.1) s1 s2
 have PC : ∀ cur : World, Below w.heap.size w cur → Calls Tryd.prog 128 #[.string u1, .string u2] cur fun e w' => e = .returned (.int .i64 (MA.cmpPre u1 u2)) ∧ Below cur.heap.size cur w' :=
  fun cur h => MA.semver_comparePrerelease.calls _ u1 u2 _ cur (hG0.below h) (MA.comparePrerelease_f u1 u2 _ s1 s2 (Nat.le_refl _))
 clear hA hP hne
 generalize cmpVer M1 m1 t1 u1 M2 m2 t2 u2 = c at Q ⊢
 generalize MA.cmpPre u1 u2 = pc at PC ⊢
 go_enter Tryd.func172, Tryd.ntmps172
 go_upto_region 1 with fail
 go_cut [18] (fun vv wx => vv = .bool (!openB pre u1) ∧ Aside0 (wx.cell? ⟨a, 0, none⟩ = some (.int .u64 M1) ∧ wx.cell? ⟨a, 1, none⟩ = some (.int .u64 m1) ∧ wx.cell? ⟨a, 2, none⟩ = some (.int .u64 t1) ∧ wx.cell? ⟨a, 3, none⟩ = some (.string u1) ∧ wx.cell? ⟨a, 4, none⟩ = some (.string v1) ∧ wx.cell? ⟨a, 5, none⟩ = some (.string ⟨#[]⟩) ∧ wx.cell? ⟨p, 0, none⟩ = some (.int .u64 M2) ∧ wx.cell? ⟨p, 1, none⟩ = some (.int .u64 m2) ∧ wx.cell? ⟨p, 2, none⟩ = some (.int .u64 t2) ∧ wx.cell? ⟨p, 3, none⟩ = some (.string u2) ∧ wx.cell? ⟨p, 4, none⟩ = some (.string v2) ∧ wx.cell? ⟨p, 5, none⟩ = some (.string ⟨#[]⟩) ∧ wx.cell? ⟨q, 0, none⟩ = some (.pointer (some ⟨p, 0, none⟩)) ∧ wx.cell? ⟨q, 1, none⟩ = some (.string ⟨#[]⟩) ∧ wx.cell? ⟨q, 2, none⟩ = some (.string s) ∧ wx.cell? ⟨q, 3, none⟩ = some (.bool md) ∧ wx.cell? ⟨q, 4, none⟩ = some (.bool d) ∧ wx.cell? ⟨q, 5, none⟩ = some (.bool pd) ∧ Below w.heap.size w wx))
 case first =>
  cases hu : u1.toList.isEmpty <;> cases pre
  all_goals
   go_wp2_with (first | (go_at_call 132; (with_reducible refine (Major_any _ _ _ _ _ _ _).mono ?_); rintro e wn ⟨rfl, hb⟩; have hS := keepK ha hp hq (by assumption) hb) | (go_at_call 133; (with_reducible refine (Minor_any _ _ _ _ _ _ _).mono ?_); rintro e wn ⟨rfl, hb⟩; have hS := keepK ha hp hq (by assumption) hb) | (go_at_call 134; (with_reducible refine (Patch_any _ _ _ _ _ _ _).mono ?_); rintro e wn ⟨rfl, hb⟩; have hS := keepK ha hp hq (by assumption) hb) | (go_at_call 135; (with_reducible refine (Prerelease_any _ _ _ _ _ _ _).mono ?_); rintro e wn ⟨rfl, hb⟩; have hS := keepK ha hp hq (by assumption) hb))
   go_meet
   case rel => exact ⟨by first | rfl | (unfold openB; rw [hu]; rfl), Aside0.mk (by assumption)⟩
 case rest =>
 obtain ⟨rfl, hA1⟩ := hcut
 have hS1 := hA1.out
 clear hA1
 cases ho : openB pre u1
 ·
  rw [Bool.not_false] at *
  go_wp2_with (first | (go_at_call 170; (with_reducible refine (errNew_any _ _).mono ?_); rintro e wn ⟨⟨tp9, p9, rfl⟩, hb⟩; have hS := keepK ha hp hq (by assumption) hb))
  (go_ret2; exact ⟨⟨_, congrArg (fun b => Ending.returned (.tuple #[.bool b, _])) (by rw [ho]; rfl)⟩, lastB (by assumption)⟩)
 rw [Bool.not_true] at *
 go_upto_region 3 with fail
 go_cut [23] (fun vv wx => vv = .bool (d) ∧ Aside0 (wx.cell? ⟨a, 0, none⟩ = some (.int .u64 M1) ∧ wx.cell? ⟨a, 1, none⟩ = some (.int .u64 m1) ∧ wx.cell? ⟨a, 2, none⟩ = some (.int .u64 t1) ∧ wx.cell? ⟨a, 3, none⟩ = some (.string u1) ∧ wx.cell? ⟨a, 4, none⟩ = some (.string v1) ∧ wx.cell? ⟨a, 5, none⟩ = some (.string ⟨#[]⟩) ∧ wx.cell? ⟨p, 0, none⟩ = some (.int .u64 M2) ∧ wx.cell? ⟨p, 1, none⟩ = some (.int .u64 m2) ∧ wx.cell? ⟨p, 2, none⟩ = some (.int .u64 t2) ∧ wx.cell? ⟨p, 3, none⟩ = some (.string u2) ∧ wx.cell? ⟨p, 4, none⟩ = some (.string v2) ∧ wx.cell? ⟨p, 5, none⟩ = some (.string ⟨#[]⟩) ∧ wx.cell? ⟨q, 0, none⟩ = some (.pointer (some ⟨p, 0, none⟩)) ∧ wx.cell? ⟨q, 1, none⟩ = some (.string ⟨#[]⟩) ∧ wx.cell? ⟨q, 2, none⟩ = some (.string s) ∧ wx.cell? ⟨q, 3, none⟩ = some (.bool md) ∧ wx.cell? ⟨q, 4, none⟩ = some (.bool d) ∧ wx.cell? ⟨q, 5, none⟩ = some (.bool pd) ∧ Below w.heap.size w wx))
 case first =>
  go_wp2_with fail
  go_meet
  case rel => exact ⟨by first | rfl | rfl, Aside0.mk (by assumption)⟩
 case rest =>
 obtain ⟨rfl, hA2⟩ := hcut
 have hS2 := hA2.out
 clear hA2
 cases d
 case false =>
  go_upto_region 19 with fail
  go_cut [9] (fun vv wx => vv = .bool (decide (c = 0)) ∧ Aside0 (wx.cell? ⟨a, 0, none⟩ = some (.int .u64 M1) ∧ wx.cell? ⟨a, 1, none⟩ = some (.int .u64 m1) ∧ wx.cell? ⟨a, 2, none⟩ = some (.int .u64 t1) ∧ wx.cell? ⟨a, 3, none⟩ = some (.string u1) ∧ wx.cell? ⟨a, 4, none⟩ = some (.string v1) ∧ wx.cell? ⟨a, 5, none⟩ = some (.string ⟨#[]⟩) ∧ wx.cell? ⟨p, 0, none⟩ = some (.int .u64 M2) ∧ wx.cell? ⟨p, 1, none⟩ = some (.int .u64 m2) ∧ wx.cell? ⟨p, 2, none⟩ = some (.int .u64 t2) ∧ wx.cell? ⟨p, 3, none⟩ = some (.string u2) ∧ wx.cell? ⟨p, 4, none⟩ = some (.string v2) ∧ wx.cell? ⟨p, 5, none⟩ = some (.string ⟨#[]⟩) ∧ wx.cell? ⟨q, 0, none⟩ = some (.pointer (some ⟨p, 0, none⟩)) ∧ wx.cell? ⟨q, 1, none⟩ = some (.string ⟨#[]⟩) ∧ wx.cell? ⟨q, 2, none⟩ = some (.string s) ∧ wx.cell? ⟨q, 3, none⟩ = some (.bool md) ∧ wx.cell? ⟨q, 4, none⟩ = some (.bool false) ∧ wx.cell? ⟨q, 5, none⟩ = some (.bool pd) ∧ Below w.heap.size w wx))
  case first =>
   go_wp2_with (first | (go_at_call 86; (with_reducible refine (Q _ ⟨?_, ?_, ?_⟩).mono ?_); exact lastB (by assumption); exact VofS ha (by assumption); exact CofS hp (by assumption); rintro e wn ⟨rfl, hb⟩; have hS := keepK ha hp hq (by assumption) hb))
   go_meet
   case rel => exact ⟨by first | rfl | rfl, Aside0.mk (by assumption)⟩
  case rest =>
  obtain ⟨rfl, hA20⟩ := hcut
  have hS20 := hA20.out
  clear hA20
  cases hq0 : decide (c = 0)
  all_goals
   go_wp2_with (first | (go_at_call 170; (with_reducible refine (errNew_any _ _).mono ?_); rintro e wn ⟨⟨tp9, p9, rfl⟩, hb⟩; have hS := keepK ha hp hq (by assumption) hb))
   (go_ret2; exact ⟨⟨_, congrArg (fun b => Ending.returned (.tuple #[.bool b, _])) (by rw [ho]; simp only [notB, if_false, Bool.false_eq_true, hq0]; first | rfl | simp)⟩, lastB (by assumption)⟩)
 go_upto_region 4 with fail
 go_cut [35] (fun vv wx => vv = .bool (M2 != M1) ∧ Aside0 (wx.cell? ⟨a, 0, none⟩ = some (.int .u64 M1) ∧ wx.cell? ⟨a, 1, none⟩ = some (.int .u64 m1) ∧ wx.cell? ⟨a, 2, none⟩ = some (.int .u64 t1) ∧ wx.cell? ⟨a, 3, none⟩ = some (.string u1) ∧ wx.cell? ⟨a, 4, none⟩ = some (.string v1) ∧ wx.cell? ⟨a, 5, none⟩ = some (.string ⟨#[]⟩) ∧ wx.cell? ⟨p, 0, none⟩ = some (.int .u64 M2) ∧ wx.cell? ⟨p, 1, none⟩ = some (.int .u64 m2) ∧ wx.cell? ⟨p, 2, none⟩ = some (.int .u64 t2) ∧ wx.cell? ⟨p, 3, none⟩ = some (.string u2) ∧ wx.cell? ⟨p, 4, none⟩ = some (.string v2) ∧ wx.cell? ⟨p, 5, none⟩ = some (.string ⟨#[]⟩) ∧ wx.cell? ⟨q, 0, none⟩ = some (.pointer (some ⟨p, 0, none⟩)) ∧ wx.cell? ⟨q, 1, none⟩ = some (.string ⟨#[]⟩) ∧ wx.cell? ⟨q, 2, none⟩ = some (.string s) ∧ wx.cell? ⟨q, 3, none⟩ = some (.bool md) ∧ wx.cell? ⟨q, 4, none⟩ = some (.bool true) ∧ wx.cell? ⟨q, 5, none⟩ = some (.bool pd) ∧ Below w.heap.size w wx))
 case first =>
  (first | (go_region_held3 (fun w' => w'.cell? ⟨a, 0, none⟩ = some (.int .u64 M1) ∧ w'.cell? ⟨a, 1, none⟩ = some (.int .u64 m1) ∧ w'.cell? ⟨a, 2, none⟩ = some (.int .u64 t1) ∧ w'.cell? ⟨a, 3, none⟩ = some (.string u1) ∧ w'.cell? ⟨a, 4, none⟩ = some (.string v1) ∧ w'.cell? ⟨a, 5, none⟩ = some (.string ⟨#[]⟩) ∧ w'.cell? ⟨p, 0, none⟩ = some (.int .u64 M2) ∧ w'.cell? ⟨p, 1, none⟩ = some (.int .u64 m2) ∧ w'.cell? ⟨p, 2, none⟩ = some (.int .u64 t2) ∧ w'.cell? ⟨p, 3, none⟩ = some (.string u2) ∧ w'.cell? ⟨p, 4, none⟩ = some (.string v2) ∧ w'.cell? ⟨p, 5, none⟩ = some (.string ⟨#[]⟩) ∧ w'.cell? ⟨q, 0, none⟩ = some (.pointer (some ⟨p, 0, none⟩)) ∧ w'.cell? ⟨q, 1, none⟩ = some (.string ⟨#[]⟩) ∧ w'.cell? ⟨q, 2, none⟩ = some (.string s) ∧ w'.cell? ⟨q, 3, none⟩ = some (.bool md) ∧ w'.cell? ⟨q, 4, none⟩ = some (.bool true) ∧ w'.cell? ⟨q, 5, none⟩ = some (.bool pd) ∧ Below w.heap.size w w') (first | exact keepKd (by assumption) | exact keepK ha hp hq (by assumption) (by assumption) | go_keep) (first | (go_at_call 132; (with_reducible refine (Major_any _ _ _ _ _ _ _).mono ?_); rintro e wn ⟨rfl, hb⟩) | (go_at_call 133; (with_reducible refine (Minor_any _ _ _ _ _ _ _).mono ?_); rintro e wn ⟨rfl, hb⟩) | (go_at_call 134; (with_reducible refine (Patch_any _ _ _ _ _ _ _).mono ?_); rintro e wn ⟨rfl, hb⟩) | (go_at_call 135; (with_reducible refine (Prerelease_any _ _ _ _ _ _ _).mono ?_); rintro e wn ⟨rfl, hb⟩))) | fail)
  go_wp2_with fail
  go_meet
  case rel => exact ⟨by first | rfl | rfl, Aside0.mk (by assumption)⟩
 case rest =>
 obtain ⟨rfl, hA3⟩ := hcut
 have hS3 := hA3.out
 clear hA3
 cases h1 : (M2 != M1)
 case true =>
  go_wp2_with (first | (go_at_call 170; (with_reducible refine (errNew_any _ _).mono ?_); rintro e wn ⟨⟨tp9, p9, rfl⟩, hb⟩; have hS := keepK ha hp hq (by assumption) hb))
  (go_ret2; exact ⟨⟨_, congrArg (fun b => Ending.returned (.tuple #[.bool b, _])) (by rw [ho]; simp only [notB, h1, if_true]; first | rfl | simp)⟩, lastB (by assumption)⟩)
 go_upto_region 6 with fail
 go_cut [54] (fun vv wx => vv = .bool ((m2 != m1) && !md) ∧ Aside0 (wx.cell? ⟨a, 0, none⟩ = some (.int .u64 M1) ∧ wx.cell? ⟨a, 1, none⟩ = some (.int .u64 m1) ∧ wx.cell? ⟨a, 2, none⟩ = some (.int .u64 t1) ∧ wx.cell? ⟨a, 3, none⟩ = some (.string u1) ∧ wx.cell? ⟨a, 4, none⟩ = some (.string v1) ∧ wx.cell? ⟨a, 5, none⟩ = some (.string ⟨#[]⟩) ∧ wx.cell? ⟨p, 0, none⟩ = some (.int .u64 M2) ∧ wx.cell? ⟨p, 1, none⟩ = some (.int .u64 m2) ∧ wx.cell? ⟨p, 2, none⟩ = some (.int .u64 t2) ∧ wx.cell? ⟨p, 3, none⟩ = some (.string u2) ∧ wx.cell? ⟨p, 4, none⟩ = some (.string v2) ∧ wx.cell? ⟨p, 5, none⟩ = some (.string ⟨#[]⟩) ∧ wx.cell? ⟨q, 0, none⟩ = some (.pointer (some ⟨p, 0, none⟩)) ∧ wx.cell? ⟨q, 1, none⟩ = some (.string ⟨#[]⟩) ∧ wx.cell? ⟨q, 2, none⟩ = some (.string s) ∧ wx.cell? ⟨q, 3, none⟩ = some (.bool md) ∧ wx.cell? ⟨q, 4, none⟩ = some (.bool true) ∧ wx.cell? ⟨q, 5, none⟩ = some (.bool pd) ∧ Below w.heap.size w wx))
 case first =>
  cases hn : (m2 != m1)
  case false =>
   refine wp_region_held_drew (S := (fun w' => w'.cell? ⟨a, 0, none⟩ = some (.int .u64 M1) ∧ w'.cell? ⟨a, 1, none⟩ = some (.int .u64 m1) ∧ w'.cell? ⟨a, 2, none⟩ = some (.int .u64 t1) ∧ w'.cell? ⟨a, 3, none⟩ = some (.string u1) ∧ w'.cell? ⟨a, 4, none⟩ = some (.string v1) ∧ w'.cell? ⟨a, 5, none⟩ = some (.string ⟨#[]⟩) ∧ w'.cell? ⟨p, 0, none⟩ = some (.int .u64 M2) ∧ w'.cell? ⟨p, 1, none⟩ = some (.int .u64 m2) ∧ w'.cell? ⟨p, 2, none⟩ = some (.int .u64 t2) ∧ w'.cell? ⟨p, 3, none⟩ = some (.string u2) ∧ w'.cell? ⟨p, 4, none⟩ = some (.string v2) ∧ w'.cell? ⟨p, 5, none⟩ = some (.string ⟨#[]⟩) ∧ w'.cell? ⟨q, 0, none⟩ = some (.pointer (some ⟨p, 0, none⟩)) ∧ w'.cell? ⟨q, 1, none⟩ = some (.string ⟨#[]⟩) ∧ w'.cell? ⟨q, 2, none⟩ = some (.string s) ∧ w'.cell? ⟨q, 3, none⟩ = some (.bool md) ∧ w'.cell? ⟨q, 4, none⟩ = some (.bool true) ∧ w'.cell? ⟨q, 5, none⟩ = some (.bool pd) ∧ Below w.heap.size w w')) (by kernel_rfl) ?_ (fun hHeld => ?_)
   ·
    exact keepKd (by assumption)
   refine wpAnyH_take (i := 0) (oi := { dst := some 36, op := Go.Op.move (Go.Operand.tmp 1), type := 133, pos := "constraints.go:319", after := #[], guard := none }) (v := ?_) rfl (by kernel_rfl) (by kernel_rfl) (by kernel_rfl) (fun _ _ _ h => h) (Or.inl ⟨by rfl, ?_⟩) (by assumption) ?_
   rotate_left
   ·
    (intro wx hSw; (try dsimp only at hSw); go_simp; first | done | with_reducible rfl)
   try simp only [Act.put, putA, putZ, putS]
   refine wpAnyH_take (i := 1) (oi := { dst := some 37, op := Go.Op.nilCheck (Go.Operand.tmp 36), type := 0, pos := "constraints.go:319", after := #[{ on := 0, ground := Go.Ground.data }], guard := none }) (v := ?_) rfl (by kernel_rfl) (by kernel_rfl) (by kernel_rfl) (fun _ _ _ h => h) (Or.inl ⟨by rfl, ?_⟩) (by assumption) ?_
   rotate_left
   ·
    (intro wx hSw; (try dsimp only at hSw); go_simp; first | done | with_reducible rfl)
   try simp only [Act.put, putA, putZ, putS]
   refine wpAnyH_take (i := 2) (oi := { dst := some 38, op := Go.Op.fieldAddr 155 (Go.Operand.tmp 37) 0, type := 0, pos := "constraints.go:319", after := #[{ on := 1, ground := Go.Ground.data }], guard := none }) (v := ?_) rfl (by kernel_rfl) (by kernel_rfl) (by kernel_rfl) (fun _ _ _ h => h) (Or.inl ⟨by rfl, ?_⟩) (by assumption) ?_
   rotate_left
   ·
    (intro wx hSw; (try dsimp only at hSw); go_simp; first | done | with_reducible rfl)
   try simp only [Act.put, putA, putZ, putS]
   refine wpAnyH_take (i := 3) (oi := { dst := some 39, op := Go.Op.load 79 (Go.Operand.tmp 38), type := 79, pos := "constraints.go:319", after := #[{ on := 2, ground := Go.Ground.data }], guard := none }) (v := ?_) rfl (by kernel_rfl) (by kernel_rfl) (by kernel_rfl) (fun _ _ _ h => h) (Or.inl ⟨by rfl, ?_⟩) (by assumption) ?_
   rotate_left
   ·
    (intro wx hSw; (try dsimp only at hSw); go_simp; first | done | with_reducible rfl)
   try simp only [Act.put, putA, putZ, putS]
   refine wpAnyH_take (i := 4) (oi := { dst := some 40, op := Go.Op.nilCheck (Go.Operand.tmp 39), type := 0, pos := "constraints.go:319", after := #[{ on := 3, ground := Go.Ground.data }], guard := none }) (v := ?_) rfl (by kernel_rfl) (by kernel_rfl) (by kernel_rfl) (fun _ _ _ h => h) (Or.inl ⟨by rfl, ?_⟩) (by assumption) ?_
   rotate_left
   ·
    (intro wx hSw; (try dsimp only at hSw); go_simp; first | done | with_reducible rfl)
   try simp only [Act.put, putA, putZ, putS]
   refine wpAnyH_take (i := 5) (oi := { dst := some 41, op := Go.Op.load 97 (Go.Operand.tmp 40), type := 97, pos := "constraints.go:319", after := #[{ on := 4, ground := Go.Ground.data }], guard := none }) (v := ?_) rfl (by kernel_rfl) (by kernel_rfl) (by kernel_rfl) (fun _ _ _ h => h) (Or.inl ⟨by rfl, ?_⟩) (by assumption) ?_
   rotate_left
   ·
    (intro wx hSw; (try dsimp only at hSw); go_simp; first | done | with_reducible rfl)
   try simp only [Act.put, putA, putZ, putS]
   refine wpAnyH_take (i := 7) (oi := { dst := some 43, op := Go.Op.move (Go.Operand.tmp 0), type := 79, pos := "constraints.go:319", after := #[], guard := none }) (v := ?_) rfl (by kernel_rfl) (by kernel_rfl) (by kernel_rfl) (fun _ _ _ h => h) (Or.inl ⟨by rfl, ?_⟩) (by assumption) ?_
   rotate_left
   ·
    (intro wx hSw; (try dsimp only at hSw); go_simp; first | done | with_reducible rfl)
   try simp only [Act.put, putA, putZ, putS]
   refine wpAnyH_take (i := 8) (oi := { dst := some 44, op := Go.Op.nilCheck (Go.Operand.tmp 43), type := 0, pos := "constraints.go:319", after := #[{ on := 7, ground := Go.Ground.data }], guard := none }) (v := ?_) rfl (by kernel_rfl) (by kernel_rfl) (by kernel_rfl) (fun _ _ _ h => h) (Or.inl ⟨by rfl, ?_⟩) (by assumption) ?_
   rotate_left
   ·
    (intro wx hSw; (try dsimp only at hSw); go_simp; first | done | with_reducible rfl)
   try simp only [Act.put, putA, putZ, putS]
   refine wpAnyH_take (i := 9) (oi := { dst := some 45, op := Go.Op.load 97 (Go.Operand.tmp 44), type := 97, pos := "constraints.go:319", after := #[{ on := 8, ground := Go.Ground.data }], guard := none }) (v := ?_) rfl (by kernel_rfl) (by kernel_rfl) (by kernel_rfl) (fun _ _ _ h => h) (Or.inl ⟨by rfl, ?_⟩) (by assumption) ?_
   rotate_left
   ·
    (intro wx hSw; (try dsimp only at hSw); go_simp; first | done | with_reducible rfl)
   try simp only [Act.put, putA, putZ, putS]
   refine wpAnyH_ready (rs := [6]) (by kernel_rfl) (by simp) ?_
   refine AllReadyH.cons (o := { dst := some 42, op := Go.Op.call { callee := Go.Callee.value (Go.Operand.func 133), args := #[Go.Operand.tmp 41], argTypes := #[79] }, type := 27, pos := "constraints.go:319", after := #[{ on := 5, ground := Go.Ground.data }], guard := none }) rfl (fun K hK => ?_) AllReadyH.nil
   go_simp
   (first | (go_at_call 132; (with_reducible refine (Major_any _ _ _ _ _ _ _).mono ?_); rintro e wn ⟨rfl, hb⟩) | (go_at_call 133; (with_reducible refine (Minor_any _ _ _ _ _ _ _).mono ?_); rintro e wn ⟨rfl, hb⟩) | (go_at_call 134; (with_reducible refine (Patch_any _ _ _ _ _ _ _).mono ?_); rintro e wn ⟨rfl, hb⟩) | (go_at_call 135; (with_reducible refine (Prerelease_any _ _ _ _ _ _ _).mono ?_); rintro e wn ⟨rfl, hb⟩))
   refine hK.out _ _ ?_ (fun hHeld => ?_)
   ·
    exact keepK ha hp hq (by assumption) (by assumption)
   clear hK K
   try simp only [Act.put, putA, putZ, putS]
   refine wpAnyH_ready (rs := [10]) (by kernel_rfl) (by simp) ?_
   refine AllReadyH.cons (o := { dst := some 46, op := Go.Op.call { callee := Go.Callee.value (Go.Operand.func 133), args := #[Go.Operand.tmp 45], argTypes := #[79] }, type := 27, pos := "constraints.go:319", after := #[{ on := 9, ground := Go.Ground.data }, { on := 6, ground := Go.Ground.chain }], guard := none }) rfl (fun K hK => ?_) AllReadyH.nil
   go_simp
   (first | (go_at_call 132; (with_reducible refine (Major_any _ _ _ _ _ _ _).mono ?_); rintro e wn ⟨rfl, hb⟩) | (go_at_call 133; (with_reducible refine (Minor_any _ _ _ _ _ _ _).mono ?_); rintro e wn ⟨rfl, hb⟩) | (go_at_call 134; (with_reducible refine (Patch_any _ _ _ _ _ _ _).mono ?_); rintro e wn ⟨rfl, hb⟩) | (go_at_call 135; (with_reducible refine (Prerelease_any _ _ _ _ _ _ _).mono ?_); rintro e wn ⟨rfl, hb⟩))
   refine hK.out _ _ ?_ (fun hHeld => ?_)
   ·
    exact keepK ha hp hq (by assumption) (by assumption)
   clear hK K
   try simp only [Act.put, putA, putZ, putS]
   refine wpAnyH_take (i := 11) (oi := { dst := some 47, op := Go.Op.binOp Go.BinOp.neq 27 (Go.Operand.tmp 42) (Go.Operand.tmp 46) 27, type := 4, pos := "constraints.go:319", after := #[{ on := 6, ground := Go.Ground.data }, { on := 10, ground := Go.Ground.data }], guard := none }) (v := ?_) rfl (by kernel_rfl) (by kernel_rfl) (by kernel_rfl) (fun _ _ _ h => h) (Or.inl ⟨by rfl, ?_⟩) (by assumption) ?_
   rotate_left
   ·
    (intro wx hSw; (try dsimp only at hSw); go_simp; first | done | with_reducible rfl)
   try simp only [Act.put, putA, putZ, putS]
   refine wpAnyH_take (i := 12) (oi := { dst := some 48, op := Go.Op.move (Go.Operand.tmp 47), type := 4, pos := "constraints.go:319", after := #[{ on := 11, ground := Go.Ground.data }, { on := 10, ground := Go.Ground.chain }], guard := none }) (v := ?_) rfl (by kernel_rfl) (by kernel_rfl) (by kernel_rfl) (fun _ _ _ h => h) (Or.inl ⟨by rfl, ?_⟩) (by assumption) ?_
   rotate_left
   ·
    (intro wx hSw; (try dsimp only at hSw); go_simp; first | done | with_reducible rfl)
   try simp only [Act.put, putA, putZ, putS]
   refine wpAnyH_take (i := 13) (oi := { dst := some 49, op := Go.Op.move (Go.Operand.tmp 1), type := 133, pos := "constraints.go:319", after := #[{ on := 12, ground := Go.Ground.guard }], guard := some (12, true) }) (v := undef) rfl (by kernel_rfl) (by kernel_rfl) (by kernel_rfl) (fun _ _ _ h => h) (Or.inr ⟨by rfl, rfl⟩) (by assumption) ?_
   try simp only [Act.put, putA, putZ, putS]
   refine wpAnyH_take (i := 14) (oi := { dst := some 50, op := Go.Op.nilCheck (Go.Operand.tmp 49), type := 0, pos := "constraints.go:319", after := #[{ on := 13, ground := Go.Ground.data }, { on := 12, ground := Go.Ground.guard }], guard := some (12, true) }) (v := undef) rfl (by kernel_rfl) (by kernel_rfl) (by kernel_rfl) (fun _ _ _ h => h) (Or.inr ⟨by rfl, rfl⟩) (by assumption) ?_
   try simp only [Act.put, putA, putZ, putS]
   refine wpAnyH_take (i := 15) (oi := { dst := some 51, op := Go.Op.fieldAddr 155 (Go.Operand.tmp 50) 3, type := 0, pos := "constraints.go:319", after := #[{ on := 14, ground := Go.Ground.data }, { on := 12, ground := Go.Ground.guard }], guard := some (12, true) }) (v := undef) rfl (by kernel_rfl) (by kernel_rfl) (by kernel_rfl) (fun _ _ _ h => h) (Or.inr ⟨by rfl, rfl⟩) (by assumption) ?_
   try simp only [Act.put, putA, putZ, putS]
   refine wpAnyH_take (i := 16) (oi := { dst := some 52, op := Go.Op.load 4 (Go.Operand.tmp 51), type := 4, pos := "constraints.go:319", after := #[{ on := 15, ground := Go.Ground.data }, { on := 12, ground := Go.Ground.guard }], guard := some (12, true) }) (v := undef) rfl (by kernel_rfl) (by kernel_rfl) (by kernel_rfl) (fun _ _ _ h => h) (Or.inr ⟨by rfl, rfl⟩) (by assumption) ?_
   try simp only [Act.put, putA, putZ, putS]
   refine wpAnyH_take (i := 17) (oi := { dst := some 53, op := Go.Op.unOp Go.UnOp.not 4 (Go.Operand.tmp 52), type := 4, pos := "constraints.go:319", after := #[{ on := 16, ground := Go.Ground.data }, { on := 12, ground := Go.Ground.guard }], guard := some (12, true) }) (v := undef) rfl (by kernel_rfl) (by kernel_rfl) (by kernel_rfl) (fun _ _ _ h => h) (Or.inr ⟨by rfl, rfl⟩) (by assumption) ?_
   try simp only [Act.put, putA, putZ, putS]
   refine wpAnyH_take (i := 18) (oi := { dst := some 54, op := Go.Op.pick (Go.Operand.tmp 48) (Go.Operand.tmp 53) (Go.Operand.const (Go.Value.bool false)), type := 4, pos := "constraints.go:319", after := #[{ on := 12, ground := Go.Ground.data }, { on := 17, ground := Go.Ground.data }], guard := none }) (v := ?_) rfl (by kernel_rfl) (by kernel_rfl) (by kernel_rfl) (fun _ _ _ h => h) (Or.inl ⟨by rfl, ?_⟩) (by assumption) ?_
   rotate_left
   ·
    (intro wx hSw; (try dsimp only at hSw); go_simp; first | done | with_reducible rfl)
   try simp only [Act.put, putA, putZ, putS]
   refine wpAnyH_done (by kernel_rfl) ?_ _
   go_wp2_with fail
   go_meet
   case rel => exact ⟨by first | rfl | (rw [hn]; rfl), Aside0.mk (by assumption)⟩
  case true =>
   refine wp_region_held_drew (S := (fun w' => w'.cell? ⟨a, 0, none⟩ = some (.int .u64 M1) ∧ w'.cell? ⟨a, 1, none⟩ = some (.int .u64 m1) ∧ w'.cell? ⟨a, 2, none⟩ = some (.int .u64 t1) ∧ w'.cell? ⟨a, 3, none⟩ = some (.string u1) ∧ w'.cell? ⟨a, 4, none⟩ = some (.string v1) ∧ w'.cell? ⟨a, 5, none⟩ = some (.string ⟨#[]⟩) ∧ w'.cell? ⟨p, 0, none⟩ = some (.int .u64 M2) ∧ w'.cell? ⟨p, 1, none⟩ = some (.int .u64 m2) ∧ w'.cell? ⟨p, 2, none⟩ = some (.int .u64 t2) ∧ w'.cell? ⟨p, 3, none⟩ = some (.string u2) ∧ w'.cell? ⟨p, 4, none⟩ = some (.string v2) ∧ w'.cell? ⟨p, 5, none⟩ = some (.string ⟨#[]⟩) ∧ w'.cell? ⟨q, 0, none⟩ = some (.pointer (some ⟨p, 0, none⟩)) ∧ w'.cell? ⟨q, 1, none⟩ = some (.string ⟨#[]⟩) ∧ w'.cell? ⟨q, 2, none⟩ = some (.string s) ∧ w'.cell? ⟨q, 3, none⟩ = some (.bool md) ∧ w'.cell? ⟨q, 4, none⟩ = some (.bool true) ∧ w'.cell? ⟨q, 5, none⟩ = some (.bool pd) ∧ Below w.heap.size w w')) (by kernel_rfl) ?_ (fun hHeld => ?_)
   ·
    exact keepKd (by assumption)
   refine wpAnyH_take (i := 0) (oi := { dst := some 36, op := Go.Op.move (Go.Operand.tmp 1), type := 133, pos := "constraints.go:319", after := #[], guard := none }) (v := ?_) rfl (by kernel_rfl) (by kernel_rfl) (by kernel_rfl) (fun _ _ _ h => h) (Or.inl ⟨by rfl, ?_⟩) (by assumption) ?_
   rotate_left
   ·
    (intro wx hSw; (try dsimp only at hSw); go_simp; first | done | with_reducible rfl)
   try simp only [Act.put, putA, putZ, putS]
   refine wpAnyH_take (i := 1) (oi := { dst := some 37, op := Go.Op.nilCheck (Go.Operand.tmp 36), type := 0, pos := "constraints.go:319", after := #[{ on := 0, ground := Go.Ground.data }], guard := none }) (v := ?_) rfl (by kernel_rfl) (by kernel_rfl) (by kernel_rfl) (fun _ _ _ h => h) (Or.inl ⟨by rfl, ?_⟩) (by assumption) ?_
   rotate_left
   ·
    (intro wx hSw; (try dsimp only at hSw); go_simp; first | done | with_reducible rfl)
   try simp only [Act.put, putA, putZ, putS]
   refine wpAnyH_take (i := 2) (oi := { dst := some 38, op := Go.Op.fieldAddr 155 (Go.Operand.tmp 37) 0, type := 0, pos := "constraints.go:319", after := #[{ on := 1, ground := Go.Ground.data }], guard := none }) (v := ?_) rfl (by kernel_rfl) (by kernel_rfl) (by kernel_rfl) (fun _ _ _ h => h) (Or.inl ⟨by rfl, ?_⟩) (by assumption) ?_
   rotate_left
   ·
    (intro wx hSw; (try dsimp only at hSw); go_simp; first | done | with_reducible rfl)
   try simp only [Act.put, putA, putZ, putS]
   refine wpAnyH_take (i := 3) (oi := { dst := some 39, op := Go.Op.load 79 (Go.Operand.tmp 38), type := 79, pos := "constraints.go:319", after := #[{ on := 2, ground := Go.Ground.data }], guard := none }) (v := ?_) rfl (by kernel_rfl) (by kernel_rfl) (by kernel_rfl) (fun _ _ _ h => h) (Or.inl ⟨by rfl, ?_⟩) (by assumption) ?_
   rotate_left
   ·
    (intro wx hSw; (try dsimp only at hSw); go_simp; first | done | with_reducible rfl)
   try simp only [Act.put, putA, putZ, putS]
   refine wpAnyH_take (i := 4) (oi := { dst := some 40, op := Go.Op.nilCheck (Go.Operand.tmp 39), type := 0, pos := "constraints.go:319", after := #[{ on := 3, ground := Go.Ground.data }], guard := none }) (v := ?_) rfl (by kernel_rfl) (by kernel_rfl) (by kernel_rfl) (fun _ _ _ h => h) (Or.inl ⟨by rfl, ?_⟩) (by assumption) ?_
   rotate_left
   ·
    (intro wx hSw; (try dsimp only at hSw); go_simp; first | done | with_reducible rfl)
   try simp only [Act.put, putA, putZ, putS]
   refine wpAnyH_take (i := 5) (oi := { dst := some 41, op := Go.Op.load 97 (Go.Operand.tmp 40), type := 97, pos := "constraints.go:319", after := #[{ on := 4, ground := Go.Ground.data }], guard := none }) (v := ?_) rfl (by kernel_rfl) (by kernel_rfl) (by kernel_rfl) (fun _ _ _ h => h) (Or.inl ⟨by rfl, ?_⟩) (by assumption) ?_
   rotate_left
   ·
    (intro wx hSw; (try dsimp only at hSw); go_simp; first | done | with_reducible rfl)
   try simp only [Act.put, putA, putZ, putS]
   refine wpAnyH_take (i := 7) (oi := { dst := some 43, op := Go.Op.move (Go.Operand.tmp 0), type := 79, pos := "constraints.go:319", after := #[], guard := none }) (v := ?_) rfl (by kernel_rfl) (by kernel_rfl) (by kernel_rfl) (fun _ _ _ h => h) (Or.inl ⟨by rfl, ?_⟩) (by assumption) ?_
   rotate_left
   ·
    (intro wx hSw; (try dsimp only at hSw); go_simp; first | done | with_reducible rfl)
   try simp only [Act.put, putA, putZ, putS]
   refine wpAnyH_take (i := 8) (oi := { dst := some 44, op := Go.Op.nilCheck (Go.Operand.tmp 43), type := 0, pos := "constraints.go:319", after := #[{ on := 7, ground := Go.Ground.data }], guard := none }) (v := ?_) rfl (by kernel_rfl) (by kernel_rfl) (by kernel_rfl) (fun _ _ _ h => h) (Or.inl ⟨by rfl, ?_⟩) (by assumption) ?_
   rotate_left
   ·
    (intro wx hSw; (try dsimp only at hSw); go_simp; first | done | with_reducible rfl)
   try simp only [Act.put, putA, putZ, putS]
   refine wpAnyH_take (i := 9) (oi := { dst := some 45, op := Go.Op.load 97 (Go.Operand.tmp 44), type := 97, pos := "constraints.go:319", after := #[{ on := 8, ground := Go.Ground.data }], guard := none }) (v := ?_) rfl (by kernel_rfl) (by kernel_rfl) (by kernel_rfl) (fun _ _ _ h => h) (Or.inl ⟨by rfl, ?_⟩) (by assumption) ?_
   rotate_left
   ·
    (intro wx hSw; (try dsimp only at hSw); go_simp; first | done | with_reducible rfl)
   try simp only [Act.put, putA, putZ, putS]
   refine wpAnyH_ready (rs := [6]) (by kernel_rfl) (by simp) ?_
   refine AllReadyH.cons (o := { dst := some 42, op := Go.Op.call { callee := Go.Callee.value (Go.Operand.func 133), args := #[Go.Operand.tmp 41], argTypes := #[79] }, type := 27, pos := "constraints.go:319", after := #[{ on := 5, ground := Go.Ground.data }], guard := none }) rfl (fun K hK => ?_) AllReadyH.nil
   go_simp
   (first | (go_at_call 132; (with_reducible refine (Major_any _ _ _ _ _ _ _).mono ?_); rintro e wn ⟨rfl, hb⟩) | (go_at_call 133; (with_reducible refine (Minor_any _ _ _ _ _ _ _).mono ?_); rintro e wn ⟨rfl, hb⟩) | (go_at_call 134; (with_reducible refine (Patch_any _ _ _ _ _ _ _).mono ?_); rintro e wn ⟨rfl, hb⟩) | (go_at_call 135; (with_reducible refine (Prerelease_any _ _ _ _ _ _ _).mono ?_); rintro e wn ⟨rfl, hb⟩))
   refine hK.out _ _ ?_ (fun hHeld => ?_)
   ·
    exact keepK ha hp hq (by assumption) (by assumption)
   clear hK K
   try simp only [Act.put, putA, putZ, putS]
   refine wpAnyH_ready (rs := [10]) (by kernel_rfl) (by simp) ?_
   refine AllReadyH.cons (o := { dst := some 46, op := Go.Op.call { callee := Go.Callee.value (Go.Operand.func 133), args := #[Go.Operand.tmp 45], argTypes := #[79] }, type := 27, pos := "constraints.go:319", after := #[{ on := 9, ground := Go.Ground.data }, { on := 6, ground := Go.Ground.chain }], guard := none }) rfl (fun K hK => ?_) AllReadyH.nil
   go_simp
   (first | (go_at_call 132; (with_reducible refine (Major_any _ _ _ _ _ _ _).mono ?_); rintro e wn ⟨rfl, hb⟩) | (go_at_call 133; (with_reducible refine (Minor_any _ _ _ _ _ _ _).mono ?_); rintro e wn ⟨rfl, hb⟩) | (go_at_call 134; (with_reducible refine (Patch_any _ _ _ _ _ _ _).mono ?_); rintro e wn ⟨rfl, hb⟩) | (go_at_call 135; (with_reducible refine (Prerelease_any _ _ _ _ _ _ _).mono ?_); rintro e wn ⟨rfl, hb⟩))
   refine hK.out _ _ ?_ (fun hHeld => ?_)
   ·
    exact keepK ha hp hq (by assumption) (by assumption)
   clear hK K
   try simp only [Act.put, putA, putZ, putS]
   refine wpAnyH_take (i := 11) (oi := { dst := some 47, op := Go.Op.binOp Go.BinOp.neq 27 (Go.Operand.tmp 42) (Go.Operand.tmp 46) 27, type := 4, pos := "constraints.go:319", after := #[{ on := 6, ground := Go.Ground.data }, { on := 10, ground := Go.Ground.data }], guard := none }) (v := ?_) rfl (by kernel_rfl) (by kernel_rfl) (by kernel_rfl) (fun _ _ _ h => h) (Or.inl ⟨by rfl, ?_⟩) (by assumption) ?_
   rotate_left
   ·
    (intro wx hSw; (try dsimp only at hSw); go_simp; first | done | with_reducible rfl)
   try simp only [Act.put, putA, putZ, putS]
   refine wpAnyH_take (i := 12) (oi := { dst := some 48, op := Go.Op.move (Go.Operand.tmp 47), type := 4, pos := "constraints.go:319", after := #[{ on := 11, ground := Go.Ground.data }, { on := 10, ground := Go.Ground.chain }], guard := none }) (v := ?_) rfl (by kernel_rfl) (by kernel_rfl) (by kernel_rfl) (fun _ _ _ h => h) (Or.inl ⟨by rfl, ?_⟩) (by assumption) ?_
   rotate_left
   ·
    (intro wx hSw; (try dsimp only at hSw); go_simp; first | done | with_reducible rfl)
   try simp only [Act.put, putA, putZ, putS]
   refine wpAnyH_take (i := 13) (oi := { dst := some 49, op := Go.Op.move (Go.Operand.tmp 1), type := 133, pos := "constraints.go:319", after := #[{ on := 12, ground := Go.Ground.guard }], guard := some (12, true) }) (v := ?_) rfl (by kernel_rfl) (by kernel_rfl) (by kernel_rfl) (fun _ _ _ h => h) (Or.inl ⟨by rfl, ?_⟩) (by assumption) ?_
   rotate_left
   ·
    (intro wx hSw; (try dsimp only at hSw); go_simp; first | done | with_reducible rfl)
   try simp only [Act.put, putA, putZ, putS]
   refine wpAnyH_take (i := 14) (oi := { dst := some 50, op := Go.Op.nilCheck (Go.Operand.tmp 49), type := 0, pos := "constraints.go:319", after := #[{ on := 13, ground := Go.Ground.data }, { on := 12, ground := Go.Ground.guard }], guard := some (12, true) }) (v := ?_) rfl (by kernel_rfl) (by kernel_rfl) (by kernel_rfl) (fun _ _ _ h => h) (Or.inl ⟨by rfl, ?_⟩) (by assumption) ?_
   rotate_left
   ·
    (intro wx hSw; (try dsimp only at hSw); go_simp; first | done | with_reducible rfl)
   try simp only [Act.put, putA, putZ, putS]
   refine wpAnyH_take (i := 15) (oi := { dst := some 51, op := Go.Op.fieldAddr 155 (Go.Operand.tmp 50) 3, type := 0, pos := "constraints.go:319", after := #[{ on := 14, ground := Go.Ground.data }, { on := 12, ground := Go.Ground.guard }], guard := some (12, true) }) (v := ?_) rfl (by kernel_rfl) (by kernel_rfl) (by kernel_rfl) (fun _ _ _ h => h) (Or.inl ⟨by rfl, ?_⟩) (by assumption) ?_
   rotate_left
   ·
    (intro wx hSw; (try dsimp only at hSw); go_simp; first | done | with_reducible rfl)
   try simp only [Act.put, putA, putZ, putS]
   refine wpAnyH_take (i := 16) (oi := { dst := some 52, op := Go.Op.load 4 (Go.Operand.tmp 51), type := 4, pos := "constraints.go:319", after := #[{ on := 15, ground := Go.Ground.data }, { on := 12, ground := Go.Ground.guard }], guard := some (12, true) }) (v := ?_) rfl (by kernel_rfl) (by kernel_rfl) (by kernel_rfl) (fun _ _ _ h => h) (Or.inl ⟨by rfl, ?_⟩) (by assumption) ?_
   rotate_left
   ·
    (intro wx hSw; (try dsimp only at hSw); go_simp; first | done | with_reducible rfl)
   try simp only [Act.put, putA, putZ, putS]
   refine wpAnyH_take (i := 17) (oi := { dst := some 53, op := Go.Op.unOp Go.UnOp.not 4 (Go.Operand.tmp 52), type := 4, pos := "constraints.go:319", after := #[{ on := 16, ground := Go.Ground.data }, { on := 12, ground := Go.Ground.guard }], guard := some (12, true) }) (v := ?_) rfl (by kernel_rfl) (by kernel_rfl) (by kernel_rfl) (fun _ _ _ h => h) (Or.inl ⟨by rfl, ?_⟩) (by assumption) ?_
   rotate_left
   ·
    (intro wx hSw; (try dsimp only at hSw); go_simp; first | done | with_reducible rfl)
   try simp only [Act.put, putA, putZ, putS]
   refine wpAnyH_take (i := 18) (oi := { dst := some 54, op := Go.Op.pick (Go.Operand.tmp 48) (Go.Operand.tmp 53) (Go.Operand.const (Go.Value.bool false)), type := 4, pos := "constraints.go:319", after := #[{ on := 12, ground := Go.Ground.data }, { on := 17, ground := Go.Ground.data }], guard := none }) (v := ?_) rfl (by kernel_rfl) (by kernel_rfl) (by kernel_rfl) (fun _ _ _ h => h) (Or.inl ⟨by rfl, ?_⟩) (by assumption) ?_
   rotate_left
   ·
    (intro wx hSw; (try dsimp only at hSw); go_simp; first | done | with_reducible rfl)
   try simp only [Act.put, putA, putZ, putS]
   refine wpAnyH_done (by kernel_rfl) ?_ _
   go_wp2_with fail
   go_meet
   case rel => exact ⟨by first | rfl | (rw [hn]; rfl), Aside0.mk (by assumption)⟩
 case rest =>
 obtain ⟨rfl, hA4⟩ := hcut
 have hS4 := hA4.out
 clear hA4
 cases h2 : ((m2 != m1) && !md)
 case true =>
  go_wp2_with (first | (go_at_call 170; (with_reducible refine (errNew_any _ _).mono ?_); rintro e wn ⟨⟨tp9, p9, rfl⟩, hb⟩; have hS := keepK ha hp hq (by assumption) hb))
  (go_ret2; exact ⟨⟨_, congrArg (fun b => Ending.returned (.tuple #[.bool b, _])) (by rw [ho]; simp only [notB, h1, h2, if_true, if_false, Bool.false_eq_true]; first | rfl | simp)⟩, lastB (by assumption)⟩)
 go_upto_region 8 with fail
 go_cut [58] (fun vv wx => vv = .bool (md) ∧ Aside0 (wx.cell? ⟨a, 0, none⟩ = some (.int .u64 M1) ∧ wx.cell? ⟨a, 1, none⟩ = some (.int .u64 m1) ∧ wx.cell? ⟨a, 2, none⟩ = some (.int .u64 t1) ∧ wx.cell? ⟨a, 3, none⟩ = some (.string u1) ∧ wx.cell? ⟨a, 4, none⟩ = some (.string v1) ∧ wx.cell? ⟨a, 5, none⟩ = some (.string ⟨#[]⟩) ∧ wx.cell? ⟨p, 0, none⟩ = some (.int .u64 M2) ∧ wx.cell? ⟨p, 1, none⟩ = some (.int .u64 m2) ∧ wx.cell? ⟨p, 2, none⟩ = some (.int .u64 t2) ∧ wx.cell? ⟨p, 3, none⟩ = some (.string u2) ∧ wx.cell? ⟨p, 4, none⟩ = some (.string v2) ∧ wx.cell? ⟨p, 5, none⟩ = some (.string ⟨#[]⟩) ∧ wx.cell? ⟨q, 0, none⟩ = some (.pointer (some ⟨p, 0, none⟩)) ∧ wx.cell? ⟨q, 1, none⟩ = some (.string ⟨#[]⟩) ∧ wx.cell? ⟨q, 2, none⟩ = some (.string s) ∧ wx.cell? ⟨q, 3, none⟩ = some (.bool md) ∧ wx.cell? ⟨q, 4, none⟩ = some (.bool true) ∧ wx.cell? ⟨q, 5, none⟩ = some (.bool pd) ∧ Below w.heap.size w wx))
 case first =>
  go_wp2_with fail
  go_meet
  case rel => exact ⟨by first | rfl | rfl, Aside0.mk (by assumption)⟩
 case rest =>
 obtain ⟨rfl, hA5⟩ := hcut
 have hS5 := hA5.out
 clear hA5
 cases md
 case true =>
  go_wp2_with (first | (go_at_call 170; (with_reducible refine (errNew_any _ _).mono ?_); rintro e wn ⟨⟨tp9, p9, rfl⟩, hb⟩; have hS := keepK ha hp hq (by assumption) hb))
  (go_ret2; exact ⟨⟨_, congrArg (fun b => Ending.returned (.tuple #[.bool b, _])) (by rw [ho]; simp only [notB, h1, h2, if_true, if_false, Bool.false_eq_true]; first | rfl | simp)⟩, lastB (by assumption)⟩)
 go_upto_region 10 with fail
 go_cut [78] (fun vv wx => vv = .bool ((t2 != t1) && !pd) ∧ Aside0 (wx.cell? ⟨a, 0, none⟩ = some (.int .u64 M1) ∧ wx.cell? ⟨a, 1, none⟩ = some (.int .u64 m1) ∧ wx.cell? ⟨a, 2, none⟩ = some (.int .u64 t1) ∧ wx.cell? ⟨a, 3, none⟩ = some (.string u1) ∧ wx.cell? ⟨a, 4, none⟩ = some (.string v1) ∧ wx.cell? ⟨a, 5, none⟩ = some (.string ⟨#[]⟩) ∧ wx.cell? ⟨p, 0, none⟩ = some (.int .u64 M2) ∧ wx.cell? ⟨p, 1, none⟩ = some (.int .u64 m2) ∧ wx.cell? ⟨p, 2, none⟩ = some (.int .u64 t2) ∧ wx.cell? ⟨p, 3, none⟩ = some (.string u2) ∧ wx.cell? ⟨p, 4, none⟩ = some (.string v2) ∧ wx.cell? ⟨p, 5, none⟩ = some (.string ⟨#[]⟩) ∧ wx.cell? ⟨q, 0, none⟩ = some (.pointer (some ⟨p, 0, none⟩)) ∧ wx.cell? ⟨q, 1, none⟩ = some (.string ⟨#[]⟩) ∧ wx.cell? ⟨q, 2, none⟩ = some (.string s) ∧ wx.cell? ⟨q, 3, none⟩ = some (.bool false) ∧ wx.cell? ⟨q, 4, none⟩ = some (.bool true) ∧ wx.cell? ⟨q, 5, none⟩ = some (.bool pd) ∧ Below w.heap.size w wx))
 case first =>
  cases hn : (t2 != t1)
  case false =>
   refine wp_region_held_drew (S := (fun w' => w'.cell? ⟨a, 0, none⟩ = some (.int .u64 M1) ∧ w'.cell? ⟨a, 1, none⟩ = some (.int .u64 m1) ∧ w'.cell? ⟨a, 2, none⟩ = some (.int .u64 t1) ∧ w'.cell? ⟨a, 3, none⟩ = some (.string u1) ∧ w'.cell? ⟨a, 4, none⟩ = some (.string v1) ∧ w'.cell? ⟨a, 5, none⟩ = some (.string ⟨#[]⟩) ∧ w'.cell? ⟨p, 0, none⟩ = some (.int .u64 M2) ∧ w'.cell? ⟨p, 1, none⟩ = some (.int .u64 m2) ∧ w'.cell? ⟨p, 2, none⟩ = some (.int .u64 t2) ∧ w'.cell? ⟨p, 3, none⟩ = some (.string u2) ∧ w'.cell? ⟨p, 4, none⟩ = some (.string v2) ∧ w'.cell? ⟨p, 5, none⟩ = some (.string ⟨#[]⟩) ∧ w'.cell? ⟨q, 0, none⟩ = some (.pointer (some ⟨p, 0, none⟩)) ∧ w'.cell? ⟨q, 1, none⟩ = some (.string ⟨#[]⟩) ∧ w'.cell? ⟨q, 2, none⟩ = some (.string s) ∧ w'.cell? ⟨q, 3, none⟩ = some (.bool false) ∧ w'.cell? ⟨q, 4, none⟩ = some (.bool true) ∧ w'.cell? ⟨q, 5, none⟩ = some (.bool pd) ∧ Below w.heap.size w w')) (by kernel_rfl) ?_ (fun hHeld => ?_)
   ·
    exact keepKd (by assumption)
   refine wpAnyH_take (i := 0) (oi := { dst := some 60, op := Go.Op.move (Go.Operand.tmp 1), type := 133, pos := "constraints.go:323", after := #[], guard := none }) (v := ?_) rfl (by kernel_rfl) (by kernel_rfl) (by kernel_rfl) (fun _ _ _ h => h) (Or.inl ⟨by rfl, ?_⟩) (by assumption) ?_
   rotate_left
   ·
    (intro wx hSw; (try dsimp only at hSw); go_simp; first | done | with_reducible rfl)
   try simp only [Act.put, putA, putZ, putS]
   refine wpAnyH_take (i := 1) (oi := { dst := some 61, op := Go.Op.nilCheck (Go.Operand.tmp 60), type := 0, pos := "constraints.go:323", after := #[{ on := 0, ground := Go.Ground.data }], guard := none }) (v := ?_) rfl (by kernel_rfl) (by kernel_rfl) (by kernel_rfl) (fun _ _ _ h => h) (Or.inl ⟨by rfl, ?_⟩) (by assumption) ?_
   rotate_left
   ·
    (intro wx hSw; (try dsimp only at hSw); go_simp; first | done | with_reducible rfl)
   try simp only [Act.put, putA, putZ, putS]
   refine wpAnyH_take (i := 2) (oi := { dst := some 62, op := Go.Op.fieldAddr 155 (Go.Operand.tmp 61) 0, type := 0, pos := "constraints.go:323", after := #[{ on := 1, ground := Go.Ground.data }], guard := none }) (v := ?_) rfl (by kernel_rfl) (by kernel_rfl) (by kernel_rfl) (fun _ _ _ h => h) (Or.inl ⟨by rfl, ?_⟩) (by assumption) ?_
   rotate_left
   ·
    (intro wx hSw; (try dsimp only at hSw); go_simp; first | done | with_reducible rfl)
   try simp only [Act.put, putA, putZ, putS]
   refine wpAnyH_take (i := 3) (oi := { dst := some 63, op := Go.Op.load 79 (Go.Operand.tmp 62), type := 79, pos := "constraints.go:323", after := #[{ on := 2, ground := Go.Ground.data }], guard := none }) (v := ?_) rfl (by kernel_rfl) (by kernel_rfl) (by kernel_rfl) (fun _ _ _ h => h) (Or.inl ⟨by rfl, ?_⟩) (by assumption) ?_
   rotate_left
   ·
    (intro wx hSw; (try dsimp only at hSw); go_simp; first | done | with_reducible rfl)
   try simp only [Act.put, putA, putZ, putS]
   refine wpAnyH_take (i := 4) (oi := { dst := some 64, op := Go.Op.nilCheck (Go.Operand.tmp 63), type := 0, pos := "constraints.go:323", after := #[{ on := 3, ground := Go.Ground.data }], guard := none }) (v := ?_) rfl (by kernel_rfl) (by kernel_rfl) (by kernel_rfl) (fun _ _ _ h => h) (Or.inl ⟨by rfl, ?_⟩) (by assumption) ?_
   rotate_left
   ·
    (intro wx hSw; (try dsimp only at hSw); go_simp; first | done | with_reducible rfl)
   try simp only [Act.put, putA, putZ, putS]
   refine wpAnyH_take (i := 5) (oi := { dst := some 65, op := Go.Op.load 97 (Go.Operand.tmp 64), type := 97, pos := "constraints.go:323", after := #[{ on := 4, ground := Go.Ground.data }], guard := none }) (v := ?_) rfl (by kernel_rfl) (by kernel_rfl) (by kernel_rfl) (fun _ _ _ h => h) (Or.inl ⟨by rfl, ?_⟩) (by assumption) ?_
   rotate_left
   ·
    (intro wx hSw; (try dsimp only at hSw); go_simp; first | done | with_reducible rfl)
   try simp only [Act.put, putA, putZ, putS]
   refine wpAnyH_take (i := 7) (oi := { dst := some 67, op := Go.Op.move (Go.Operand.tmp 0), type := 79, pos := "constraints.go:323", after := #[], guard := none }) (v := ?_) rfl (by kernel_rfl) (by kernel_rfl) (by kernel_rfl) (fun _ _ _ h => h) (Or.inl ⟨by rfl, ?_⟩) (by assumption) ?_
   rotate_left
   ·
    (intro wx hSw; (try dsimp only at hSw); go_simp; first | done | with_reducible rfl)
   try simp only [Act.put, putA, putZ, putS]
   refine wpAnyH_take (i := 8) (oi := { dst := some 68, op := Go.Op.nilCheck (Go.Operand.tmp 67), type := 0, pos := "constraints.go:323", after := #[{ on := 7, ground := Go.Ground.data }], guard := none }) (v := ?_) rfl (by kernel_rfl) (by kernel_rfl) (by kernel_rfl) (fun _ _ _ h => h) (Or.inl ⟨by rfl, ?_⟩) (by assumption) ?_
   rotate_left
   ·
    (intro wx hSw; (try dsimp only at hSw); go_simp; first | done | with_reducible rfl)
   try simp only [Act.put, putA, putZ, putS]
   refine wpAnyH_take (i := 9) (oi := { dst := some 69, op := Go.Op.load 97 (Go.Operand.tmp 68), type := 97, pos := "constraints.go:323", after := #[{ on := 8, ground := Go.Ground.data }], guard := none }) (v := ?_) rfl (by kernel_rfl) (by kernel_rfl) (by kernel_rfl) (fun _ _ _ h => h) (Or.inl ⟨by rfl, ?_⟩) (by assumption) ?_
   rotate_left
   ·
    (intro wx hSw; (try dsimp only at hSw); go_simp; first | done | with_reducible rfl)
   try simp only [Act.put, putA, putZ, putS]
   refine wpAnyH_ready (rs := [6]) (by kernel_rfl) (by simp) ?_
   refine AllReadyH.cons (o := { dst := some 66, op := Go.Op.call { callee := Go.Callee.value (Go.Operand.func 134), args := #[Go.Operand.tmp 65], argTypes := #[79] }, type := 27, pos := "constraints.go:323", after := #[{ on := 5, ground := Go.Ground.data }], guard := none }) rfl (fun K hK => ?_) AllReadyH.nil
   go_simp
   (first | (go_at_call 132; (with_reducible refine (Major_any _ _ _ _ _ _ _).mono ?_); rintro e wn ⟨rfl, hb⟩) | (go_at_call 133; (with_reducible refine (Minor_any _ _ _ _ _ _ _).mono ?_); rintro e wn ⟨rfl, hb⟩) | (go_at_call 134; (with_reducible refine (Patch_any _ _ _ _ _ _ _).mono ?_); rintro e wn ⟨rfl, hb⟩) | (go_at_call 135; (with_reducible refine (Prerelease_any _ _ _ _ _ _ _).mono ?_); rintro e wn ⟨rfl, hb⟩))
   refine hK.out _ _ ?_ (fun hHeld => ?_)
   ·
    exact keepK ha hp hq (by assumption) (by assumption)
   clear hK K
   try simp only [Act.put, putA, putZ, putS]
   refine wpAnyH_ready (rs := [10]) (by kernel_rfl) (by simp) ?_
   refine AllReadyH.cons (o := { dst := some 70, op := Go.Op.call { callee := Go.Callee.value (Go.Operand.func 134), args := #[Go.Operand.tmp 69], argTypes := #[79] }, type := 27, pos := "constraints.go:323", after := #[{ on := 9, ground := Go.Ground.data }, { on := 6, ground := Go.Ground.chain }], guard := none }) rfl (fun K hK => ?_) AllReadyH.nil
   go_simp
   (first | (go_at_call 132; (with_reducible refine (Major_any _ _ _ _ _ _ _).mono ?_); rintro e wn ⟨rfl, hb⟩) | (go_at_call 133; (with_reducible refine (Minor_any _ _ _ _ _ _ _).mono ?_); rintro e wn ⟨rfl, hb⟩) | (go_at_call 134; (with_reducible refine (Patch_any _ _ _ _ _ _ _).mono ?_); rintro e wn ⟨rfl, hb⟩) | (go_at_call 135; (with_reducible refine (Prerelease_any _ _ _ _ _ _ _).mono ?_); rintro e wn ⟨rfl, hb⟩))
   refine hK.out _ _ ?_ (fun hHeld => ?_)
   ·
    exact keepK ha hp hq (by assumption) (by assumption)
   clear hK K
   try simp only [Act.put, putA, putZ, putS]
   refine wpAnyH_take (i := 11) (oi := { dst := some 71, op := Go.Op.binOp Go.BinOp.neq 27 (Go.Operand.tmp 66) (Go.Operand.tmp 70) 27, type := 4, pos := "constraints.go:323", after := #[{ on := 6, ground := Go.Ground.data }, { on := 10, ground := Go.Ground.data }], guard := none }) (v := ?_) rfl (by kernel_rfl) (by kernel_rfl) (by kernel_rfl) (fun _ _ _ h => h) (Or.inl ⟨by rfl, ?_⟩) (by assumption) ?_
   rotate_left
   ·
    (intro wx hSw; (try dsimp only at hSw); go_simp; first | done | with_reducible rfl)
   try simp only [Act.put, putA, putZ, putS]
   refine wpAnyH_take (i := 12) (oi := { dst := some 72, op := Go.Op.move (Go.Operand.tmp 71), type := 4, pos := "constraints.go:323", after := #[{ on := 11, ground := Go.Ground.data }, { on := 10, ground := Go.Ground.chain }], guard := none }) (v := ?_) rfl (by kernel_rfl) (by kernel_rfl) (by kernel_rfl) (fun _ _ _ h => h) (Or.inl ⟨by rfl, ?_⟩) (by assumption) ?_
   rotate_left
   ·
    (intro wx hSw; (try dsimp only at hSw); go_simp; first | done | with_reducible rfl)
   try simp only [Act.put, putA, putZ, putS]
   refine wpAnyH_take (i := 13) (oi := { dst := some 73, op := Go.Op.move (Go.Operand.tmp 1), type := 133, pos := "constraints.go:323", after := #[{ on := 12, ground := Go.Ground.guard }], guard := some (12, true) }) (v := undef) rfl (by kernel_rfl) (by kernel_rfl) (by kernel_rfl) (fun _ _ _ h => h) (Or.inr ⟨by rfl, rfl⟩) (by assumption) ?_
   try simp only [Act.put, putA, putZ, putS]
   refine wpAnyH_take (i := 14) (oi := { dst := some 74, op := Go.Op.nilCheck (Go.Operand.tmp 73), type := 0, pos := "constraints.go:323", after := #[{ on := 13, ground := Go.Ground.data }, { on := 12, ground := Go.Ground.guard }], guard := some (12, true) }) (v := undef) rfl (by kernel_rfl) (by kernel_rfl) (by kernel_rfl) (fun _ _ _ h => h) (Or.inr ⟨by rfl, rfl⟩) (by assumption) ?_
   try simp only [Act.put, putA, putZ, putS]
   refine wpAnyH_take (i := 15) (oi := { dst := some 75, op := Go.Op.fieldAddr 155 (Go.Operand.tmp 74) 5, type := 0, pos := "constraints.go:323", after := #[{ on := 14, ground := Go.Ground.data }, { on := 12, ground := Go.Ground.guard }], guard := some (12, true) }) (v := undef) rfl (by kernel_rfl) (by kernel_rfl) (by kernel_rfl) (fun _ _ _ h => h) (Or.inr ⟨by rfl, rfl⟩) (by assumption) ?_
   try simp only [Act.put, putA, putZ, putS]
   refine wpAnyH_take (i := 16) (oi := { dst := some 76, op := Go.Op.load 4 (Go.Operand.tmp 75), type := 4, pos := "constraints.go:323", after := #[{ on := 15, ground := Go.Ground.data }, { on := 12, ground := Go.Ground.guard }], guard := some (12, true) }) (v := undef) rfl (by kernel_rfl) (by kernel_rfl) (by kernel_rfl) (fun _ _ _ h => h) (Or.inr ⟨by rfl, rfl⟩) (by assumption) ?_
   try simp only [Act.put, putA, putZ, putS]
   refine wpAnyH_take (i := 17) (oi := { dst := some 77, op := Go.Op.unOp Go.UnOp.not 4 (Go.Operand.tmp 76), type := 4, pos := "constraints.go:323", after := #[{ on := 16, ground := Go.Ground.data }, { on := 12, ground := Go.Ground.guard }], guard := some (12, true) }) (v := undef) rfl (by kernel_rfl) (by kernel_rfl) (by kernel_rfl) (fun _ _ _ h => h) (Or.inr ⟨by rfl, rfl⟩) (by assumption) ?_
   try simp only [Act.put, putA, putZ, putS]
   refine wpAnyH_take (i := 18) (oi := { dst := some 78, op := Go.Op.pick (Go.Operand.tmp 72) (Go.Operand.tmp 77) (Go.Operand.const (Go.Value.bool false)), type := 4, pos := "constraints.go:323", after := #[{ on := 12, ground := Go.Ground.data }, { on := 17, ground := Go.Ground.data }], guard := none }) (v := ?_) rfl (by kernel_rfl) (by kernel_rfl) (by kernel_rfl) (fun _ _ _ h => h) (Or.inl ⟨by rfl, ?_⟩) (by assumption) ?_
   rotate_left
   ·
    (intro wx hSw; (try dsimp only at hSw); go_simp; first | done | with_reducible rfl)
   try simp only [Act.put, putA, putZ, putS]
   refine wpAnyH_done (by kernel_rfl) ?_ _
   go_wp2_with fail
   go_meet
   case rel => exact ⟨by first | rfl | (rw [hn]; rfl), Aside0.mk (by assumption)⟩
  case true =>
   refine wp_region_held_drew (S := (fun w' => w'.cell? ⟨a, 0, none⟩ = some (.int .u64 M1) ∧ w'.cell? ⟨a, 1, none⟩ = some (.int .u64 m1) ∧ w'.cell? ⟨a, 2, none⟩ = some (.int .u64 t1) ∧ w'.cell? ⟨a, 3, none⟩ = some (.string u1) ∧ w'.cell? ⟨a, 4, none⟩ = some (.string v1) ∧ w'.cell? ⟨a, 5, none⟩ = some (.string ⟨#[]⟩) ∧ w'.cell? ⟨p, 0, none⟩ = some (.int .u64 M2) ∧ w'.cell? ⟨p, 1, none⟩ = some (.int .u64 m2) ∧ w'.cell? ⟨p, 2, none⟩ = some (.int .u64 t2) ∧ w'.cell? ⟨p, 3, none⟩ = some (.string u2) ∧ w'.cell? ⟨p, 4, none⟩ = some (.string v2) ∧ w'.cell? ⟨p, 5, none⟩ = some (.string ⟨#[]⟩) ∧ w'.cell? ⟨q, 0, none⟩ = some (.pointer (some ⟨p, 0, none⟩)) ∧ w'.cell? ⟨q, 1, none⟩ = some (.string ⟨#[]⟩) ∧ w'.cell? ⟨q, 2, none⟩ = some (.string s) ∧ w'.cell? ⟨q, 3, none⟩ = some (.bool false) ∧ w'.cell? ⟨q, 4, none⟩ = some (.bool true) ∧ w'.cell? ⟨q, 5, none⟩ = some (.bool pd) ∧ Below w.heap.size w w')) (by kernel_rfl) ?_ (fun hHeld => ?_)
   ·
    exact keepKd (by assumption)
   refine wpAnyH_take (i := 0) (oi := { dst := some 60, op := Go.Op.move (Go.Operand.tmp 1), type := 133, pos := "constraints.go:323", after := #[], guard := none }) (v := ?_) rfl (by kernel_rfl) (by kernel_rfl) (by kernel_rfl) (fun _ _ _ h => h) (Or.inl ⟨by rfl, ?_⟩) (by assumption) ?_
   rotate_left
   ·
    (intro wx hSw; (try dsimp only at hSw); go_simp; first | done | with_reducible rfl)
   try simp only [Act.put, putA, putZ, putS]
   refine wpAnyH_take (i := 1) (oi := { dst := some 61, op := Go.Op.nilCheck (Go.Operand.tmp 60), type := 0, pos := "constraints.go:323", after := #[{ on := 0, ground := Go.Ground.data }], guard := none }) (v := ?_) rfl (by kernel_rfl) (by kernel_rfl) (by kernel_rfl) (fun _ _ _ h => h) (Or.inl ⟨by rfl, ?_⟩) (by assumption) ?_
   rotate_left
   ·
    (intro wx hSw; (try dsimp only at hSw); go_simp; first | done | with_reducible rfl)
   try simp only [Act.put, putA, putZ, putS]
   refine wpAnyH_take (i := 2) (oi := { dst := some 62, op := Go.Op.fieldAddr 155 (Go.Operand.tmp 61) 0, type := 0, pos := "constraints.go:323", after := #[{ on := 1, ground := Go.Ground.data }], guard := none }) (v := ?_) rfl (by kernel_rfl) (by kernel_rfl) (by kernel_rfl) (fun _ _ _ h => h) (Or.inl ⟨by rfl, ?_⟩) (by assumption) ?_
   rotate_left
   ·
    (intro wx hSw; (try dsimp only at hSw); go_simp; first | done | with_reducible rfl)
   try simp only [Act.put, putA, putZ, putS]
   refine wpAnyH_take (i := 3) (oi := { dst := some 63, op := Go.Op.load 79 (Go.Operand.tmp 62), type := 79, pos := "constraints.go:323", after := #[{ on := 2, ground := Go.Ground.data }], guard := none }) (v := ?_) rfl (by kernel_rfl) (by kernel_rfl) (by kernel_rfl) (fun _ _ _ h => h) (Or.inl ⟨by rfl, ?_⟩) (by assumption) ?_
   rotate_left
   ·
    (intro wx hSw; (try dsimp only at hSw); go_simp; first | done | with_reducible rfl)
   try simp only [Act.put, putA, putZ, putS]
   refine wpAnyH_take (i := 4) (oi := { dst := some 64, op := Go.Op.nilCheck (Go.Operand.tmp 63), type := 0, pos := "constraints.go:323", after := #[{ on := 3, ground := Go.Ground.data }], guard := none }) (v := ?_) rfl (by kernel_rfl) (by kernel_rfl) (by kernel_rfl) (fun _ _ _ h => h) (Or.inl ⟨by rfl, ?_⟩) (by assumption) ?_
   rotate_left
   ·
    (intro wx hSw; (try dsimp only at hSw); go_simp; first | done | with_reducible rfl)
   try simp only [Act.put, putA, putZ, putS]
   refine wpAnyH_take (i := 5) (oi := { dst := some 65, op := Go.Op.load 97 (Go.Operand.tmp 64), type := 97, pos := "constraints.go:323", after := #[{ on := 4, ground := Go.Ground.data }], guard := none }) (v := ?_) rfl (by kernel_rfl) (by kernel_rfl) (by kernel_rfl) (fun _ _ _ h => h) (Or.inl ⟨by rfl, ?_⟩) (by assumption) ?_
   rotate_left
   ·
    (intro wx hSw; (try dsimp only at hSw); go_simp; first | done | with_reducible rfl)
   try simp only [Act.put, putA, putZ, putS]
   refine wpAnyH_take (i := 7) (oi := { dst := some 67, op := Go.Op.move (Go.Operand.tmp 0), type := 79, pos := "constraints.go:323", after := #[], guard := none }) (v := ?_) rfl (by kernel_rfl) (by kernel_rfl) (by kernel_rfl) (fun _ _ _ h => h) (Or.inl ⟨by rfl, ?_⟩) (by assumption) ?_
   rotate_left
   ·
    (intro wx hSw; (try dsimp only at hSw); go_simp; first | done | with_reducible rfl)
   try simp only [Act.put, putA, putZ, putS]
   refine wpAnyH_take (i := 8) (oi := { dst := some 68, op := Go.Op.nilCheck (Go.Operand.tmp 67), type := 0, pos := "constraints.go:323", after := #[{ on := 7, ground := Go.Ground.data }], guard := none }) (v := ?_) rfl (by kernel_rfl) (by kernel_rfl) (by kernel_rfl) (fun _ _ _ h => h) (Or.inl ⟨by rfl, ?_⟩) (by assumption) ?_
   rotate_left
   ·
    (intro wx hSw; (try dsimp only at hSw); go_simp; first | done | with_reducible rfl)
   try simp only [Act.put, putA, putZ, putS]
   refine wpAnyH_take (i := 9) (oi := { dst := some 69, op := Go.Op.load 97 (Go.Operand.tmp 68), type := 97, pos := "constraints.go:323", after := #[{ on := 8, ground := Go.Ground.data }], guard := none }) (v := ?_) rfl (by kernel_rfl) (by kernel_rfl) (by kernel_rfl) (fun _ _ _ h => h) (Or.inl ⟨by rfl, ?_⟩) (by assumption) ?_
   rotate_left
   ·
    (intro wx hSw; (try dsimp only at hSw); go_simp; first | done | with_reducible rfl)
   try simp only [Act.put, putA, putZ, putS]
   refine wpAnyH_ready (rs := [6]) (by kernel_rfl) (by simp) ?_
   refine AllReadyH.cons (o := { dst := some 66, op := Go.Op.call { callee := Go.Callee.value (Go.Operand.func 134), args := #[Go.Operand.tmp 65], argTypes := #[79] }, type := 27, pos := "constraints.go:323", after := #[{ on := 5, ground := Go.Ground.data }], guard := none }) rfl (fun K hK => ?_) AllReadyH.nil
   go_simp
   (first | (go_at_call 132; (with_reducible refine (Major_any _ _ _ _ _ _ _).mono ?_); rintro e wn ⟨rfl, hb⟩) | (go_at_call 133; (with_reducible refine (Minor_any _ _ _ _ _ _ _).mono ?_); rintro e wn ⟨rfl, hb⟩) | (go_at_call 134; (with_reducible refine (Patch_any _ _ _ _ _ _ _).mono ?_); rintro e wn ⟨rfl, hb⟩) | (go_at_call 135; (with_reducible refine (Prerelease_any _ _ _ _ _ _ _).mono ?_); rintro e wn ⟨rfl, hb⟩))
   refine hK.out _ _ ?_ (fun hHeld => ?_)
   ·
    exact keepK ha hp hq (by assumption) (by assumption)
   clear hK K
   try simp only [Act.put, putA, putZ, putS]
   refine wpAnyH_ready (rs := [10]) (by kernel_rfl) (by simp) ?_
   refine AllReadyH.cons (o := { dst := some 70, op := Go.Op.call { callee := Go.Callee.value (Go.Operand.func 134), args := #[Go.Operand.tmp 69], argTypes := #[79] }, type := 27, pos := "constraints.go:323", after := #[{ on := 9, ground := Go.Ground.data }, { on := 6, ground := Go.Ground.chain }], guard := none }) rfl (fun K hK => ?_) AllReadyH.nil
   go_simp
   (first | (go_at_call 132; (with_reducible refine (Major_any _ _ _ _ _ _ _).mono ?_); rintro e wn ⟨rfl, hb⟩) | (go_at_call 133; (with_reducible refine (Minor_any _ _ _ _ _ _ _).mono ?_); rintro e wn ⟨rfl, hb⟩) | (go_at_call 134; (with_reducible refine (Patch_any _ _ _ _ _ _ _).mono ?_); rintro e wn ⟨rfl, hb⟩) | (go_at_call 135; (with_reducible refine (Prerelease_any _ _ _ _ _ _ _).mono ?_); rintro e wn ⟨rfl, hb⟩))
   refine hK.out _ _ ?_ (fun hHeld => ?_)
   ·
    exact keepK ha hp hq (by assumption) (by assumption)
   clear hK K
   try simp only [Act.put, putA, putZ, putS]
   refine wpAnyH_take (i := 11) (oi := { dst := some 71, op := Go.Op.binOp Go.BinOp.neq 27 (Go.Operand.tmp 66) (Go.Operand.tmp 70) 27, type := 4, pos := "constraints.go:323", after := #[{ on := 6, ground := Go.Ground.data }, { on := 10, ground := Go.Ground.data }], guard := none }) (v := ?_) rfl (by kernel_rfl) (by kernel_rfl) (by kernel_rfl) (fun _ _ _ h => h) (Or.inl ⟨by rfl, ?_⟩) (by assumption) ?_
   rotate_left
   ·
    (intro wx hSw; (try dsimp only at hSw); go_simp; first | done | with_reducible rfl)
   try simp only [Act.put, putA, putZ, putS]
   refine wpAnyH_take (i := 12) (oi := { dst := some 72, op := Go.Op.move (Go.Operand.tmp 71), type := 4, pos := "constraints.go:323", after := #[{ on := 11, ground := Go.Ground.data }, { on := 10, ground := Go.Ground.chain }], guard := none }) (v := ?_) rfl (by kernel_rfl) (by kernel_rfl) (by kernel_rfl) (fun _ _ _ h => h) (Or.inl ⟨by rfl, ?_⟩) (by assumption) ?_
   rotate_left
   ·
    (intro wx hSw; (try dsimp only at hSw); go_simp; first | done | with_reducible rfl)
   try simp only [Act.put, putA, putZ, putS]
   refine wpAnyH_take (i := 13) (oi := { dst := some 73, op := Go.Op.move (Go.Operand.tmp 1), type := 133, pos := "constraints.go:323", after := #[{ on := 12, ground := Go.Ground.guard }], guard := some (12, true) }) (v := ?_) rfl (by kernel_rfl) (by kernel_rfl) (by kernel_rfl) (fun _ _ _ h => h) (Or.inl ⟨by rfl, ?_⟩) (by assumption) ?_
   rotate_left
   ·
    (intro wx hSw; (try dsimp only at hSw); go_simp; first | done | with_reducible rfl)
   try simp only [Act.put, putA, putZ, putS]
   refine wpAnyH_take (i := 14) (oi := { dst := some 74, op := Go.Op.nilCheck (Go.Operand.tmp 73), type := 0, pos := "constraints.go:323", after := #[{ on := 13, ground := Go.Ground.data }, { on := 12, ground := Go.Ground.guard }], guard := some (12, true) }) (v := ?_) rfl (by kernel_rfl) (by kernel_rfl) (by kernel_rfl) (fun _ _ _ h => h) (Or.inl ⟨by rfl, ?_⟩) (by assumption) ?_
   rotate_left
   ·
    (intro wx hSw; (try dsimp only at hSw); go_simp; first | done | with_reducible rfl)
   try simp only [Act.put, putA, putZ, putS]
   refine wpAnyH_take (i := 15) (oi := { dst := some 75, op := Go.Op.fieldAddr 155 (Go.Operand.tmp 74) 5, type := 0, pos := "constraints.go:323", after := #[{ on := 14, ground := Go.Ground.data }, { on := 12, ground := Go.Ground.guard }], guard := some (12, true) }) (v := ?_) rfl (by kernel_rfl) (by kernel_rfl) (by kernel_rfl) (fun _ _ _ h => h) (Or.inl ⟨by rfl, ?_⟩) (by assumption) ?_
   rotate_left
   ·
    (intro wx hSw; (try dsimp only at hSw); go_simp; first | done | with_reducible rfl)
   try simp only [Act.put, putA, putZ, putS]
   refine wpAnyH_take (i := 16) (oi := { dst := some 76, op := Go.Op.load 4 (Go.Operand.tmp 75), type := 4, pos := "constraints.go:323", after := #[{ on := 15, ground := Go.Ground.data }, { on := 12, ground := Go.Ground.guard }], guard := some (12, true) }) (v := ?_) rfl (by kernel_rfl) (by kernel_rfl) (by kernel_rfl) (fun _ _ _ h => h) (Or.inl ⟨by rfl, ?_⟩) (by assumption) ?_
   rotate_left
   ·
    (intro wx hSw; (try dsimp only at hSw); go_simp; first | done | with_reducible rfl)
   try simp only [Act.put, putA, putZ, putS]
   refine wpAnyH_take (i := 17) (oi := { dst := some 77, op := Go.Op.unOp Go.UnOp.not 4 (Go.Operand.tmp 76), type := 4, pos := "constraints.go:323", after := #[{ on := 16, ground := Go.Ground.data }, { on := 12, ground := Go.Ground.guard }], guard := some (12, true) }) (v := ?_) rfl (by kernel_rfl) (by kernel_rfl) (by kernel_rfl) (fun _ _ _ h => h) (Or.inl ⟨by rfl, ?_⟩) (by assumption) ?_
   rotate_left
   ·
    (intro wx hSw; (try dsimp only at hSw); go_simp; first | done | with_reducible rfl)
   try simp only [Act.put, putA, putZ, putS]
   refine wpAnyH_take (i := 18) (oi := { dst := some 78, op := Go.Op.pick (Go.Operand.tmp 72) (Go.Operand.tmp 77) (Go.Operand.const (Go.Value.bool false)), type := 4, pos := "constraints.go:323", after := #[{ on := 12, ground := Go.Ground.data }, { on := 17, ground := Go.Ground.data }], guard := none }) (v := ?_) rfl (by kernel_rfl) (by kernel_rfl) (by kernel_rfl) (fun _ _ _ h => h) (Or.inl ⟨by rfl, ?_⟩) (by assumption) ?_
   rotate_left
   ·
    (intro wx hSw; (try dsimp only at hSw); go_simp; first | done | with_reducible rfl)
   try simp only [Act.put, putA, putZ, putS]
   refine wpAnyH_done (by kernel_rfl) ?_ _
   go_wp2_with fail
   go_meet
   case rel => exact ⟨by first | rfl | (rw [hn]; rfl), Aside0.mk (by assumption)⟩
 case rest =>
 obtain ⟨rfl, hA6⟩ := hcut
 have hS6 := hA6.out
 clear hA6
 cases h3 : ((t2 != t1) && !pd)
 case true =>
  go_wp2_with (first | (go_at_call 170; (with_reducible refine (errNew_any _ _).mono ?_); rintro e wn ⟨⟨tp9, p9, rfl⟩, hb⟩; have hS := keepK ha hp hq (by assumption) hb))
  (go_ret2; exact ⟨⟨_, congrArg (fun b => Ending.returned (.tuple #[.bool b, _])) (by rw [ho]; simp only [notB, h1, h2, h3, if_true, if_false, Bool.false_eq_true]; first | rfl | simp)⟩, lastB (by assumption)⟩)
 go_upto_region 12 with fail
 go_cut [82] (fun vv wx => vv = .bool (pd) ∧ Aside0 (wx.cell? ⟨a, 0, none⟩ = some (.int .u64 M1) ∧ wx.cell? ⟨a, 1, none⟩ = some (.int .u64 m1) ∧ wx.cell? ⟨a, 2, none⟩ = some (.int .u64 t1) ∧ wx.cell? ⟨a, 3, none⟩ = some (.string u1) ∧ wx.cell? ⟨a, 4, none⟩ = some (.string v1) ∧ wx.cell? ⟨a, 5, none⟩ = some (.string ⟨#[]⟩) ∧ wx.cell? ⟨p, 0, none⟩ = some (.int .u64 M2) ∧ wx.cell? ⟨p, 1, none⟩ = some (.int .u64 m2) ∧ wx.cell? ⟨p, 2, none⟩ = some (.int .u64 t2) ∧ wx.cell? ⟨p, 3, none⟩ = some (.string u2) ∧ wx.cell? ⟨p, 4, none⟩ = some (.string v2) ∧ wx.cell? ⟨p, 5, none⟩ = some (.string ⟨#[]⟩) ∧ wx.cell? ⟨q, 0, none⟩ = some (.pointer (some ⟨p, 0, none⟩)) ∧ wx.cell? ⟨q, 1, none⟩ = some (.string ⟨#[]⟩) ∧ wx.cell? ⟨q, 2, none⟩ = some (.string s) ∧ wx.cell? ⟨q, 3, none⟩ = some (.bool false) ∧ wx.cell? ⟨q, 4, none⟩ = some (.bool true) ∧ wx.cell? ⟨q, 5, none⟩ = some (.bool pd) ∧ Below w.heap.size w wx))
 case first =>
  go_wp2_with fail
  go_meet
  case rel => exact ⟨by first | rfl | rfl, Aside0.mk (by assumption)⟩
 case rest =>
 obtain ⟨rfl, hA7⟩ := hcut
 have hS7 := hA7.out
 clear hA7
 cases pd
 case false =>
  go_upto_region 19 with fail
  go_cut [9] (fun vv wx => vv = .bool (decide (c = 0)) ∧ Aside0 (wx.cell? ⟨a, 0, none⟩ = some (.int .u64 M1) ∧ wx.cell? ⟨a, 1, none⟩ = some (.int .u64 m1) ∧ wx.cell? ⟨a, 2, none⟩ = some (.int .u64 t1) ∧ wx.cell? ⟨a, 3, none⟩ = some (.string u1) ∧ wx.cell? ⟨a, 4, none⟩ = some (.string v1) ∧ wx.cell? ⟨a, 5, none⟩ = some (.string ⟨#[]⟩) ∧ wx.cell? ⟨p, 0, none⟩ = some (.int .u64 M2) ∧ wx.cell? ⟨p, 1, none⟩ = some (.int .u64 m2) ∧ wx.cell? ⟨p, 2, none⟩ = some (.int .u64 t2) ∧ wx.cell? ⟨p, 3, none⟩ = some (.string u2) ∧ wx.cell? ⟨p, 4, none⟩ = some (.string v2) ∧ wx.cell? ⟨p, 5, none⟩ = some (.string ⟨#[]⟩) ∧ wx.cell? ⟨q, 0, none⟩ = some (.pointer (some ⟨p, 0, none⟩)) ∧ wx.cell? ⟨q, 1, none⟩ = some (.string ⟨#[]⟩) ∧ wx.cell? ⟨q, 2, none⟩ = some (.string s) ∧ wx.cell? ⟨q, 3, none⟩ = some (.bool false) ∧ wx.cell? ⟨q, 4, none⟩ = some (.bool true) ∧ wx.cell? ⟨q, 5, none⟩ = some (.bool false) ∧ Below w.heap.size w wx))
  case first =>
   go_wp2_with (first | (go_at_call 86; (with_reducible refine (Q _ ⟨?_, ?_, ?_⟩).mono ?_); exact lastB (by assumption); exact VofS ha (by assumption); exact CofS hp (by assumption); rintro e wn ⟨rfl, hb⟩; have hS := keepK ha hp hq (by assumption) hb))
   go_meet
   case rel => exact ⟨by first | rfl | rfl, Aside0.mk (by assumption)⟩
  case rest =>
  obtain ⟨rfl, hA20⟩ := hcut
  have hS20 := hA20.out
  clear hA20
  cases hq0 : decide (c = 0)
  all_goals
   go_wp2_with (first | (go_at_call 170; (with_reducible refine (errNew_any _ _).mono ?_); rintro e wn ⟨⟨tp9, p9, rfl⟩, hb⟩; have hS := keepK ha hp hq (by assumption) hb))
   (go_ret2; exact ⟨⟨_, congrArg (fun b => Ending.returned (.tuple #[.bool b, _])) (by rw [ho]; simp only [notB, h1, h2, h3, if_true, if_false, Bool.false_eq_true, hq0]; first | rfl | simp)⟩, lastB (by assumption)⟩)
 go_upto_region 13 with fail
 go_cut [97] (fun vv wx => vv = .bool (!u1.toList.isEmpty || !u2.toList.isEmpty) ∧ Aside0 (wx.cell? ⟨a, 0, none⟩ = some (.int .u64 M1) ∧ wx.cell? ⟨a, 1, none⟩ = some (.int .u64 m1) ∧ wx.cell? ⟨a, 2, none⟩ = some (.int .u64 t1) ∧ wx.cell? ⟨a, 3, none⟩ = some (.string u1) ∧ wx.cell? ⟨a, 4, none⟩ = some (.string v1) ∧ wx.cell? ⟨a, 5, none⟩ = some (.string ⟨#[]⟩) ∧ wx.cell? ⟨p, 0, none⟩ = some (.int .u64 M2) ∧ wx.cell? ⟨p, 1, none⟩ = some (.int .u64 m2) ∧ wx.cell? ⟨p, 2, none⟩ = some (.int .u64 t2) ∧ wx.cell? ⟨p, 3, none⟩ = some (.string u2) ∧ wx.cell? ⟨p, 4, none⟩ = some (.string v2) ∧ wx.cell? ⟨p, 5, none⟩ = some (.string ⟨#[]⟩) ∧ wx.cell? ⟨q, 0, none⟩ = some (.pointer (some ⟨p, 0, none⟩)) ∧ wx.cell? ⟨q, 1, none⟩ = some (.string ⟨#[]⟩) ∧ wx.cell? ⟨q, 2, none⟩ = some (.string s) ∧ wx.cell? ⟨q, 3, none⟩ = some (.bool false) ∧ wx.cell? ⟨q, 4, none⟩ = some (.bool true) ∧ wx.cell? ⟨q, 5, none⟩ = some (.bool true) ∧ Below w.heap.size w wx))
 case first =>
  cases hu1 : u1.toList.isEmpty <;> cases hu2 : u2.toList.isEmpty
  all_goals
   go_wp2_with (first | (go_at_call 132; (with_reducible refine (Major_any _ _ _ _ _ _ _).mono ?_); rintro e wn ⟨rfl, hb⟩; have hS := keepK ha hp hq (by assumption) hb) | (go_at_call 133; (with_reducible refine (Minor_any _ _ _ _ _ _ _).mono ?_); rintro e wn ⟨rfl, hb⟩; have hS := keepK ha hp hq (by assumption) hb) | (go_at_call 134; (with_reducible refine (Patch_any _ _ _ _ _ _ _).mono ?_); rintro e wn ⟨rfl, hb⟩; have hS := keepK ha hp hq (by assumption) hb) | (go_at_call 135; (with_reducible refine (Prerelease_any _ _ _ _ _ _ _).mono ?_); rintro e wn ⟨rfl, hb⟩; have hS := keepK ha hp hq (by assumption) hb))
   go_meet
   case rel => exact ⟨by first | rfl | (first | (simp only [hu1]; rfl) | (simp only [hu1, hu2]; rfl)), Aside0.mk (by assumption)⟩
 case rest =>
 obtain ⟨rfl, hA8⟩ := hcut
 have hS8 := hA8.out
 clear hA8
 cases h4 : (!u1.toList.isEmpty || !u2.toList.isEmpty)
 case false =>
  go_wp2_with (first | (go_at_call 170; (with_reducible refine (errNew_any _ _).mono ?_); rintro e wn ⟨⟨tp9, p9, rfl⟩, hb⟩; have hS := keepK ha hp hq (by assumption) hb))
  (go_ret2; exact ⟨⟨_, congrArg (fun b => Ending.returned (.tuple #[.bool b, _])) (by rw [ho]; simp only [notB, h1, h2, h3, h4, if_true, if_false, Bool.false_eq_true]; first | rfl | simp)⟩, lastB (by assumption)⟩)
 go_upto_region 14 with fail
 go_cut [8] (fun vv wx => vv = .bool (pc != 0) ∧ Aside0 (wx.cell? ⟨a, 0, none⟩ = some (.int .u64 M1) ∧ wx.cell? ⟨a, 1, none⟩ = some (.int .u64 m1) ∧ wx.cell? ⟨a, 2, none⟩ = some (.int .u64 t1) ∧ wx.cell? ⟨a, 3, none⟩ = some (.string u1) ∧ wx.cell? ⟨a, 4, none⟩ = some (.string v1) ∧ wx.cell? ⟨a, 5, none⟩ = some (.string ⟨#[]⟩) ∧ wx.cell? ⟨p, 0, none⟩ = some (.int .u64 M2) ∧ wx.cell? ⟨p, 1, none⟩ = some (.int .u64 m2) ∧ wx.cell? ⟨p, 2, none⟩ = some (.int .u64 t2) ∧ wx.cell? ⟨p, 3, none⟩ = some (.string u2) ∧ wx.cell? ⟨p, 4, none⟩ = some (.string v2) ∧ wx.cell? ⟨p, 5, none⟩ = some (.string ⟨#[]⟩) ∧ wx.cell? ⟨q, 0, none⟩ = some (.pointer (some ⟨p, 0, none⟩)) ∧ wx.cell? ⟨q, 1, none⟩ = some (.string ⟨#[]⟩) ∧ wx.cell? ⟨q, 2, none⟩ = some (.string s) ∧ wx.cell? ⟨q, 3, none⟩ = some (.bool false) ∧ wx.cell? ⟨q, 4, none⟩ = some (.bool true) ∧ wx.cell? ⟨q, 5, none⟩ = some (.bool true) ∧ Below w.heap.size w wx))
 case first =>
  (first | (go_region_held3 (fun w' => w'.cell? ⟨a, 0, none⟩ = some (.int .u64 M1) ∧ w'.cell? ⟨a, 1, none⟩ = some (.int .u64 m1) ∧ w'.cell? ⟨a, 2, none⟩ = some (.int .u64 t1) ∧ w'.cell? ⟨a, 3, none⟩ = some (.string u1) ∧ w'.cell? ⟨a, 4, none⟩ = some (.string v1) ∧ w'.cell? ⟨a, 5, none⟩ = some (.string ⟨#[]⟩) ∧ w'.cell? ⟨p, 0, none⟩ = some (.int .u64 M2) ∧ w'.cell? ⟨p, 1, none⟩ = some (.int .u64 m2) ∧ w'.cell? ⟨p, 2, none⟩ = some (.int .u64 t2) ∧ w'.cell? ⟨p, 3, none⟩ = some (.string u2) ∧ w'.cell? ⟨p, 4, none⟩ = some (.string v2) ∧ w'.cell? ⟨p, 5, none⟩ = some (.string ⟨#[]⟩) ∧ w'.cell? ⟨q, 0, none⟩ = some (.pointer (some ⟨p, 0, none⟩)) ∧ w'.cell? ⟨q, 1, none⟩ = some (.string ⟨#[]⟩) ∧ w'.cell? ⟨q, 2, none⟩ = some (.string s) ∧ w'.cell? ⟨q, 3, none⟩ = some (.bool false) ∧ w'.cell? ⟨q, 4, none⟩ = some (.bool true) ∧ w'.cell? ⟨q, 5, none⟩ = some (.bool true) ∧ Below w.heap.size w w') (first | exact keepKd (by assumption) | exact keepK ha hp hq (by assumption) (by assumption) | go_keep) (first | (go_at_call 132; (with_reducible refine (Major_any _ _ _ _ _ _ _).mono ?_); rintro e wn ⟨rfl, hb⟩) | (go_at_call 133; (with_reducible refine (Minor_any _ _ _ _ _ _ _).mono ?_); rintro e wn ⟨rfl, hb⟩) | (go_at_call 134; (with_reducible refine (Patch_any _ _ _ _ _ _ _).mono ?_); rintro e wn ⟨rfl, hb⟩) | (go_at_call 135; (with_reducible refine (Prerelease_any _ _ _ _ _ _ _).mono ?_); rintro e wn ⟨rfl, hb⟩) | (go_at_call 128; (with_reducible refine (PC _ ?_).mono ?_); exact lastB (by assumption); rintro e wn ⟨rfl, hb⟩))) | fail)
  go_wp2_with fail
  go_meet
  case rel => exact ⟨by first | rfl | rfl, Aside0.mk (by assumption)⟩
 case rest =>
 obtain ⟨rfl, hA9⟩ := hcut
 have hS9 := hA9.out
 clear hA9
 cases h5 : (pc != 0)
 all_goals
  go_wp2_with (first | (go_at_call 170; (with_reducible refine (errNew_any _ _).mono ?_); rintro e wn ⟨⟨tp9, p9, rfl⟩, hb⟩; have hS := keepK ha hp hq (by assumption) hb))
  (go_ret2; exact ⟨⟨_, congrArg (fun b => Ending.returned (.tuple #[.bool b, _])) (by rw [ho]; simp only [notB, h1, h2, h3, h4, h5, if_true, if_false, Bool.false_eq_true]; first | rfl | simp)⟩, lastB (by assumption)⟩)
end Go.Proofs.YtalpehfjjidfhaaDoor.Hand
