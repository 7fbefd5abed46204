/- What is proved: by hand, = and ~ over terms, as the thin package has them. -/
import Derived.Test.YtalpehfjjidfhaaDoorHandX
import Derived.Test.YtalpehfjjidfhaaDoorHandQ
namespace Go.Proofs.YtalpehfjjidfhaaDoor.Hand
set_option linter.unusedVariables false
set_option linter.unusedSimpArgs false
open Go.RowKit Go.Proofs.YtalpehfjjidfhaaDoorW.PrintWords Sv
def equalB (c M1 m1 M2 m2 t2 : Int) (d md pd : Bool) : Bool := if d then tildeB c M1 m1 M2 m2 t2 md pd else decide (c = 0)
set_option maxHeartbeats 2000000 in
set_option maxRecDepth 100000 in
theorem cEqual_any (M1 m1 t1 : Int) (u1 v1 : ByteArray) (M2 m2 t2 : Int) (u2 v2 : ByteArray) (s : ByteArray) (d md pd : Bool) (a p q : Nat) (w : World) (hG0 : Gl w) (s1 : u1.size < 8796093022208) (s2 : u2.size < 8796093022208) (hV : VAt w a M1 m1 t1 u1 v1) (hC : VAt w p M2 m2 t2 u2 v2) (hK : KAt w q p s d md pd) (pre : Bool) (hne : a ≠ p) (hA : HAt w a) (hP : HAt w p) :
  Calls Tryd.prog 151 #[.pointer (some ⟨a, 0, none⟩), .pointer (some ⟨q, 0, none⟩), .bool pre] w fun e w' => (∃ ev, e = .returned (.tuple #[.bool (openB pre u1 && equalB (cmpVer M1 m1 t1 u1 M2 m2 t2 u2) M1 m1 M2 m2 t2 d md pd), ev])) ∧ Below w.heap.size w w' := by
 have ha := hV.lt
 have hp := hC.lt
 have hq := hK.lt
 have hS0 := startK hV hC hK
 have Q : ∀ cur : World, (cur.cell? ⟨a, 0, none⟩ = some (.int .u64 M1) ∧ cur.cell? ⟨a, 1, none⟩ = some (.int .u64 m1) ∧ cur.cell? ⟨a, 2, none⟩ = some (.int .u64 t1) ∧ cur.cell? ⟨a, 3, none⟩ = some (.string u1) ∧ cur.cell? ⟨a, 4, none⟩ = some (.string v1) ∧ cur.cell? ⟨a, 5, none⟩ = some (.string ⟨#[]⟩) ∧ cur.cell? ⟨p, 0, none⟩ = some (.int .u64 M2) ∧ cur.cell? ⟨p, 1, none⟩ = some (.int .u64 m2) ∧ cur.cell? ⟨p, 2, none⟩ = some (.int .u64 t2) ∧ cur.cell? ⟨p, 3, none⟩ = some (.string u2) ∧ cur.cell? ⟨p, 4, none⟩ = some (.string v2) ∧ cur.cell? ⟨p, 5, none⟩ = some (.string ⟨#[]⟩) ∧ cur.cell? ⟨q, 0, none⟩ = some (.pointer (some ⟨p, 0, none⟩)) ∧ cur.cell? ⟨q, 1, none⟩ = some (.string ⟨#[]⟩) ∧ cur.cell? ⟨q, 2, none⟩ = some (.string s) ∧ cur.cell? ⟨q, 3, none⟩ = some (.bool md) ∧ cur.cell? ⟨q, 4, none⟩ = some (.bool d) ∧ cur.cell? ⟨q, 5, none⟩ = some (.bool pd) ∧ Below w.heap.size w cur) → Calls Tryd.prog 86 #[.pointer (some ⟨a, 0, none⟩), .pointer (some ⟨p, 0, none⟩)] cur fun e w' => e = .returned (.bool (decide (cmpVer M1 m1 t1 u1 M2 m2 t2 u2 = 0))) ∧ Below cur.heap.size cur w' :=
  fun cur h => Equal_at M1 m1 t1 u1 v1 M2 m2 t2 u2 v2 a p cur hne (hA.below (lastB h)) (hP.below (lastB h)) (VofS ha h) (CofS hp h) (GofS hG0 h) s1 s2
 have Tl : ∀ cur : World, (cur.cell? ⟨a, 0, none⟩ = some (.int .u64 M1) ∧ cur.cell? ⟨a, 1, none⟩ = some (.int .u64 m1) ∧ cur.cell? ⟨a, 2, none⟩ = some (.int .u64 t1) ∧ cur.cell? ⟨a, 3, none⟩ = some (.string u1) ∧ cur.cell? ⟨a, 4, none⟩ = some (.string v1) ∧ cur.cell? ⟨a, 5, none⟩ = some (.string ⟨#[]⟩) ∧ cur.cell? ⟨p, 0, none⟩ = some (.int .u64 M2) ∧ cur.cell? ⟨p, 1, none⟩ = some (.int .u64 m2) ∧ cur.cell? ⟨p, 2, none⟩ = some (.int .u64 t2) ∧ cur.cell? ⟨p, 3, none⟩ = some (.string u2) ∧ cur.cell? ⟨p, 4, none⟩ = some (.string v2) ∧ cur.cell? ⟨p, 5, none⟩ = some (.string ⟨#[]⟩) ∧ cur.cell? ⟨q, 0, none⟩ = some (.pointer (some ⟨p, 0, none⟩)) ∧ cur.cell? ⟨q, 1, none⟩ = some (.string ⟨#[]⟩) ∧ cur.cell? ⟨q, 2, none⟩ = some (.string s) ∧ cur.cell? ⟨q, 3, none⟩ = some (.bool md) ∧ cur.cell? ⟨q, 4, none⟩ = some (.bool d) ∧ cur.cell? ⟨q, 5, none⟩ = some (.bool pd) ∧ Below w.heap.size w cur) → Calls Tryd.prog 152 #[.pointer (some ⟨a, 0, none⟩), .pointer (some ⟨q, 0, none⟩), .bool pre] cur fun e w' => (∃ ev, e = .returned (.tuple #[.bool (openB pre u1 && tildeB (cmpVer M1 m1 t1 u1 M2 m2 t2 u2) M1 m1 M2 m2 t2 md pd), ev])) ∧ Below cur.heap.size cur w' :=
  fun cur h => cTilde_any M1 m1 t1 u1 v1 M2 m2 t2 u2 v2 s d md pd a p q cur (GofS hG0 h) s1 s2 (VofS ha h) (CofS hp h) (KofS hq h) pre
 clear hA hP
 generalize cmpVer M1 m1 t1 u1 M2 m2 t2 u2 = c at Q Tl ⊢
 generalize htl : tildeB c M1 m1 M2 m2 t2 md pd = tl at Tl
 generalize hec : decide (c = 0) = ec at Q
 cases hu : u1.toList.isEmpty <;> cases pre <;> cases d <;> cases tl <;> cases ec
 all_goals
  go_enter Tryd.func151, Tryd.ntmps151
  go_wp2_with (first | (go_at_call 132; (with_reducible refine (Major_any _ _ _ _ _ _ _).mono ?_); rintro e wn ⟨rfl, hb⟩; have hS := keepK ha hp hq (by assumption) hb) | (go_at_call 133; (with_reducible refine (Minor_any _ _ _ _ _ _ _).mono ?_); rintro e wn ⟨rfl, hb⟩; have hS := keepK ha hp hq (by assumption) hb) | (go_at_call 134; (with_reducible refine (Patch_any _ _ _ _ _ _ _).mono ?_); rintro e wn ⟨rfl, hb⟩; have hS := keepK ha hp hq (by assumption) hb) | (go_at_call 135; (with_reducible refine (Prerelease_any _ _ _ _ _ _ _).mono ?_); rintro e wn ⟨rfl, hb⟩; have hS := keepK ha hp hq (by assumption) hb) | (go_at_call 86; (with_reducible refine (Q _ ?_).mono ?_); assumption; rintro e wn ⟨rfl, hb⟩; have hS := keepK ha hp hq (by assumption) hb) | (go_at_call 152; (with_reducible refine (Tl _ ?_).mono ?_); assumption; rintro e wn ⟨⟨ev, rfl⟩, hb⟩; have hS := keepK ha hp hq (by assumption) hb) | (go_at_call 170; (with_reducible refine (errNew_any _ _).mono ?_); rintro e wn ⟨⟨tp9, p9, rfl⟩, hb⟩; have hS := keepK ha hp hq (by assumption) hb))
  all_goals (go_ret2; exact ⟨⟨_, congrArg (fun b => Ending.returned (.tuple #[.bool b, _])) (by first | rfl | (simp [openB, equalB, htl, hec, hu]; done) | (simp_all [openB, equalB]; done))⟩, lastB (by assumption)⟩)
end Go.Proofs.YtalpehfjjidfhaaDoor.Hand
