/- What is proved: by hand, the check of one constraint, whatever its operator. -/
import Derived.Test.YtalpehfjjidfhaaDoorHandE
import Derived.Test.YtalpehfjjidfhaaDoorHandG
import Derived.Test.YtalpehfjjidfhaaDoorHandH
import Derived.Test.YtalpehfjjidfhaaDoorHandW
import Derived.Test.YtalpehfjjidfhaaDoorHandY
namespace Go.Proofs.YtalpehfjjidfhaaDoor.Hand
set_option linter.unusedVariables false
set_option linter.unusedSimpArgs false
open Go.RowKit Go.Proofs.YtalpehfjjidfhaaDoorW.PrintWords Sv
set_option maxHeartbeats 2000000 in
set_option maxRecDepth 100000 in
theorem checkOp_0 (M1 m1 t1 : Int) (u1 v1 : ByteArray) (M2 m2 t2 : Int) (u2 v2 : ByteArray) (d md pd : Bool) (a p q : Nat) (w : World) (hG0 : Gl w) (s1 : u1.size < 8796093022208) (s2 : u2.size < 8796093022208) (hV : VAt w a M1 m1 t1 u1 v1) (hC : VAt w p M2 m2 t2 u2 v2) (hK : KAt w q p (⟨#[61]⟩ : ByteArray) d md pd) (pre : Bool) (hne : a ≠ p) (hA : HAt w a) (hP : HAt w p) :
  Calls Tryd.prog 156 #[.pointer (some ⟨q, 0, none⟩), .pointer (some ⟨a, 0, none⟩), .bool pre] w fun e w' => (∃ ev, e = .returned (.tuple #[.bool (openB pre u1 && equalB (cmpVer M1 m1 t1 u1 M2 m2 t2 u2) M1 m1 M2 m2 t2 d md pd), ev])) ∧ Below w.heap.size w w' := by
 have X := cEqual_any M1 m1 t1 u1 v1 M2 m2 t2 u2 v2 ⟨#[61]⟩ d md pd a p q w hG0 s1 s2 hV hC hK pre hne hA hP
 generalize (openB pre u1 && equalB (cmpVer M1 m1 t1 u1 M2 m2 t2 u2) M1 m1 M2 m2 t2 d md pd) = rr at X ⊢
 obtain ⟨hq, k0, k1, k2, k3, k4, k5⟩ := id hK
 clear hV hC
 go_enter Tryd.func156, Tryd.ntmps156
 go_wp2_with (first | (go_at_call 151; (with_reducible refine X.mono ?_); rintro e w1 ⟨⟨ev, rfl⟩, hb1⟩))
 go_ret2
 exact ⟨⟨_, rfl⟩, hb1⟩
set_option maxHeartbeats 2000000 in
set_option maxRecDepth 100000 in
theorem checkOp_1 (M1 m1 t1 : Int) (u1 v1 : ByteArray) (M2 m2 t2 : Int) (u2 v2 : ByteArray) (d md pd : Bool) (a p q : Nat) (w : World) (hG0 : Gl w) (s1 : u1.size < 8796093022208) (s2 : u2.size < 8796093022208) (hV : VAt w a M1 m1 t1 u1 v1) (hC : VAt w p M2 m2 t2 u2 v2) (hK : KAt w q p (⟨#[33, 61]⟩ : ByteArray) d md pd) (pre : Bool) (hne : a ≠ p) (hA : HAt w a) (hP : HAt w p) :
  Calls Tryd.prog 156 #[.pointer (some ⟨q, 0, none⟩), .pointer (some ⟨a, 0, none⟩), .bool pre] w fun e w' => (∃ ev, e = .returned (.tuple #[.bool (openB pre u1 && notB (cmpVer M1 m1 t1 u1 M2 m2 t2 u2) (MA.cmpPre u1 u2) M1 m1 t1 u1.toList.isEmpty M2 m2 t2 u2.toList.isEmpty d md pd), ev])) ∧ Below w.heap.size w w' := by
 have X := cNE_any M1 m1 t1 u1 v1 M2 m2 t2 u2 v2 ⟨#[33, 61]⟩ d md pd a p q w hG0 s1 s2 hV hC hK pre hne hA hP
 generalize (openB pre u1 && notB (cmpVer M1 m1 t1 u1 M2 m2 t2 u2) (MA.cmpPre u1 u2) M1 m1 t1 u1.toList.isEmpty M2 m2 t2 u2.toList.isEmpty d md pd) = rr at X ⊢
 obtain ⟨hq, k0, k1, k2, k3, k4, k5⟩ := id hK
 clear hV hC
 go_enter Tryd.func156, Tryd.ntmps156
 go_wp2_with (first | (go_at_call 172; (with_reducible refine X.mono ?_); rintro e w1 ⟨⟨ev, rfl⟩, hb1⟩))
 go_ret2
 exact ⟨⟨_, rfl⟩, hb1⟩
set_option maxHeartbeats 2000000 in
set_option maxRecDepth 100000 in
theorem checkOp_2 (M1 m1 t1 : Int) (u1 v1 : ByteArray) (M2 m2 t2 : Int) (u2 v2 : ByteArray) (d md pd : Bool) (a p q : Nat) (w : World) (hG0 : Gl w) (s1 : u1.size < 8796093022208) (s2 : u2.size < 8796093022208) (hV : VAt w a M1 m1 t1 u1 v1) (hC : VAt w p M2 m2 t2 u2 v2) (hK : KAt w q p (⟨#[62]⟩ : ByteArray) d md pd) (pre : Bool) :
  Calls Tryd.prog 156 #[.pointer (some ⟨q, 0, none⟩), .pointer (some ⟨a, 0, none⟩), .bool pre] w fun e w' => (∃ ev, e = .returned (.tuple #[.bool (openB pre u1 && aboveB (cmpVer M1 m1 t1 u1 M2 m2 t2 u2) M1 m1 M2 m2 d md pd), ev])) ∧ Below w.heap.size w w' := by
 have X := cGT_any M1 m1 t1 u1 v1 M2 m2 t2 u2 v2 ⟨#[62]⟩ d md pd a p q w hG0 s1 s2 hV hC hK pre
 generalize (openB pre u1 && aboveB (cmpVer M1 m1 t1 u1 M2 m2 t2 u2) M1 m1 M2 m2 d md pd) = rr at X ⊢
 obtain ⟨hq, k0, k1, k2, k3, k4, k5⟩ := id hK
 clear hV hC
 go_enter Tryd.func156, Tryd.ntmps156
 go_wp2_with (first | (go_at_call 173; (with_reducible refine X.mono ?_); rintro e w1 ⟨⟨ev, rfl⟩, hb1⟩))
 go_ret2
 exact ⟨⟨_, rfl⟩, hb1⟩
set_option maxHeartbeats 2000000 in
set_option maxRecDepth 100000 in
theorem checkOp_3 (M1 m1 t1 : Int) (u1 v1 : ByteArray) (M2 m2 t2 : Int) (u2 v2 : ByteArray) (d md pd : Bool) (a p q : Nat) (w : World) (hG0 : Gl w) (s1 : u1.size < 8796093022208) (s2 : u2.size < 8796093022208) (hV : VAt w a M1 m1 t1 u1 v1) (hC : VAt w p M2 m2 t2 u2 v2) (hK : KAt w q p (⟨#[60]⟩ : ByteArray) d md pd) (pre : Bool) :
  Calls Tryd.prog 156 #[.pointer (some ⟨q, 0, none⟩), .pointer (some ⟨a, 0, none⟩), .bool pre] w fun e w' => (∃ ev, e = .returned (.tuple #[.bool (openB pre u1 && decide (cmpVer M1 m1 t1 u1 M2 m2 t2 u2 < 0)), ev])) ∧ Below w.heap.size w w' := by
 have X := cLT_any M1 m1 t1 u1 v1 M2 m2 t2 u2 v2 ⟨#[60]⟩ d md pd a p q w hG0 s1 s2 hV hC hK pre
 generalize (openB pre u1 && decide (cmpVer M1 m1 t1 u1 M2 m2 t2 u2 < 0)) = rr at X ⊢
 obtain ⟨hq, k0, k1, k2, k3, k4, k5⟩ := id hK
 clear hV hC
 go_enter Tryd.func156, Tryd.ntmps156
 go_wp2_with (first | (go_at_call 174; (with_reducible refine X.mono ?_); rintro e w1 ⟨⟨ev, rfl⟩, hb1⟩))
 go_ret2
 exact ⟨⟨_, rfl⟩, hb1⟩
set_option maxHeartbeats 2000000 in
set_option maxRecDepth 100000 in
theorem checkOp_4 (M1 m1 t1 : Int) (u1 v1 : ByteArray) (M2 m2 t2 : Int) (u2 v2 : ByteArray) (d md pd : Bool) (a p q : Nat) (w : World) (hG0 : Gl w) (s1 : u1.size < 8796093022208) (s2 : u2.size < 8796093022208) (hV : VAt w a M1 m1 t1 u1 v1) (hC : VAt w p M2 m2 t2 u2 v2) (hK : KAt w q p (⟨#[62, 61]⟩ : ByteArray) d md pd) (pre : Bool) :
  Calls Tryd.prog 156 #[.pointer (some ⟨q, 0, none⟩), .pointer (some ⟨a, 0, none⟩), .bool pre] w fun e w' => (∃ ev, e = .returned (.tuple #[.bool (openB pre u1 && decide (cmpVer M1 m1 t1 u1 M2 m2 t2 u2 ≥ 0)), ev])) ∧ Below w.heap.size w w' := by
 have X := cGE_any M1 m1 t1 u1 v1 M2 m2 t2 u2 v2 ⟨#[62, 61]⟩ d md pd a p q w hG0 s1 s2 hV hC hK pre
 generalize (openB pre u1 && decide (cmpVer M1 m1 t1 u1 M2 m2 t2 u2 ≥ 0)) = rr at X ⊢
 obtain ⟨hq, k0, k1, k2, k3, k4, k5⟩ := id hK
 clear hV hC
 go_enter Tryd.func156, Tryd.ntmps156
 go_wp2_with (first | (go_at_call 143; (with_reducible refine X.mono ?_); rintro e w1 ⟨⟨ev, rfl⟩, hb1⟩))
 go_ret2
 exact ⟨⟨_, rfl⟩, hb1⟩
set_option maxHeartbeats 2000000 in
set_option maxRecDepth 100000 in
theorem checkOp_5 (M1 m1 t1 : Int) (u1 v1 : ByteArray) (M2 m2 t2 : Int) (u2 v2 : ByteArray) (d md pd : Bool) (a p q : Nat) (w : World) (hG0 : Gl w) (s1 : u1.size < 8796093022208) (s2 : u2.size < 8796093022208) (hV : VAt w a M1 m1 t1 u1 v1) (hC : VAt w p M2 m2 t2 u2 v2) (hK : KAt w q p (⟨#[60, 61]⟩ : ByteArray) d md pd) (pre : Bool) :
  Calls Tryd.prog 156 #[.pointer (some ⟨q, 0, none⟩), .pointer (some ⟨a, 0, none⟩), .bool pre] w fun e w' => (∃ ev, e = .returned (.tuple #[.bool (openB pre u1 && mostB (cmpVer M1 m1 t1 u1 M2 m2 t2 u2) M1 m1 M2 m2 d md), ev])) ∧ Below w.heap.size w w' := by
 have X := cLE_any M1 m1 t1 u1 v1 M2 m2 t2 u2 v2 ⟨#[60, 61]⟩ d md pd a p q w hG0 s1 s2 hV hC hK pre
 generalize (openB pre u1 && mostB (cmpVer M1 m1 t1 u1 M2 m2 t2 u2) M1 m1 M2 m2 d md) = rr at X ⊢
 obtain ⟨hq, k0, k1, k2, k3, k4, k5⟩ := id hK
 clear hV hC
 go_enter Tryd.func156, Tryd.ntmps156
 go_wp2_with (first | (go_at_call 175; (with_reducible refine X.mono ?_); rintro e w1 ⟨⟨ev, rfl⟩, hb1⟩))
 go_ret2
 exact ⟨⟨_, rfl⟩, hb1⟩
set_option maxHeartbeats 2000000 in
set_option maxRecDepth 100000 in
theorem checkOp_6 (M1 m1 t1 : Int) (u1 v1 : ByteArray) (M2 m2 t2 : Int) (u2 v2 : ByteArray) (d md pd : Bool) (a p q : Nat) (w : World) (hG0 : Gl w) (s1 : u1.size < 8796093022208) (s2 : u2.size < 8796093022208) (hV : VAt w a M1 m1 t1 u1 v1) (hC : VAt w p M2 m2 t2 u2 v2) (hK : KAt w q p (⟨#[126]⟩ : ByteArray) d md pd) (pre : Bool) :
  Calls Tryd.prog 156 #[.pointer (some ⟨q, 0, none⟩), .pointer (some ⟨a, 0, none⟩), .bool pre] w fun e w' => (∃ ev, e = .returned (.tuple #[.bool (openB pre u1 && tildeB (cmpVer M1 m1 t1 u1 M2 m2 t2 u2) M1 m1 M2 m2 t2 md pd), ev])) ∧ Below w.heap.size w w' := by
 have X := cTilde_any M1 m1 t1 u1 v1 M2 m2 t2 u2 v2 ⟨#[126]⟩ d md pd a p q w hG0 s1 s2 hV hC hK pre
 generalize (openB pre u1 && tildeB (cmpVer M1 m1 t1 u1 M2 m2 t2 u2) M1 m1 M2 m2 t2 md pd) = rr at X ⊢
 obtain ⟨hq, k0, k1, k2, k3, k4, k5⟩ := id hK
 clear hV hC
 go_enter Tryd.func156, Tryd.ntmps156
 go_wp2_with (first | (go_at_call 152; (with_reducible refine X.mono ?_); rintro e w1 ⟨⟨ev, rfl⟩, hb1⟩))
 go_ret2
 exact ⟨⟨_, rfl⟩, hb1⟩
set_option maxHeartbeats 2000000 in
set_option maxRecDepth 100000 in
theorem checkOp_7 (M1 m1 t1 : Int) (u1 v1 : ByteArray) (M2 m2 t2 : Int) (u2 v2 : ByteArray) (d md pd : Bool) (a p q : Nat) (w : World) (hG0 : Gl w) (s1 : u1.size < 8796093022208) (s2 : u2.size < 8796093022208) (hV : VAt w a M1 m1 t1 u1 v1) (hC : VAt w p M2 m2 t2 u2 v2) (hK : KAt w q p (⟨#[94]⟩ : ByteArray) d md pd) (pre : Bool) :
  Calls Tryd.prog 156 #[.pointer (some ⟨q, 0, none⟩), .pointer (some ⟨a, 0, none⟩), .bool pre] w fun e w' => (∃ ev, e = .returned (.tuple #[.bool (openB pre u1 && caretB (cmpVer M1 m1 t1 u1 M2 m2 t2 u2) M1 m1 t1 M2 m2 t2 md pd), ev])) ∧ Below w.heap.size w w' := by
 have X := cCaret_any M1 m1 t1 u1 v1 M2 m2 t2 u2 v2 ⟨#[94]⟩ d md pd a p q w hG0 s1 s2 hV hC hK pre
 generalize (openB pre u1 && caretB (cmpVer M1 m1 t1 u1 M2 m2 t2 u2) M1 m1 t1 M2 m2 t2 md pd) = rr at X ⊢
 obtain ⟨hq, k0, k1, k2, k3, k4, k5⟩ := id hK
 clear hV hC
 go_enter Tryd.func156, Tryd.ntmps156
 go_wp2_with (first | (go_at_call 176; (with_reducible refine X.mono ?_); rintro e w1 ⟨⟨ev, rfl⟩, hb1⟩))
 go_ret2
 exact ⟨⟨_, rfl⟩, hb1⟩
/-- What a constraint with operator number op says of a version that is let in. -/
def saysB (op c pc M1 m1 t1 : Int) (e1 : Bool) (M2 m2 t2 : Int) (e2 d md pd : Bool) : Bool :=
 if op = 0 then equalB c M1 m1 M2 m2 t2 d md pd else if op = 1 then notB c pc M1 m1 t1 e1 M2 m2 t2 e2 d md pd else if op = 2 then aboveB c M1 m1 M2 m2 d md pd else if op = 3 then decide (c < 0) else if op = 4 then decide (c ≥ 0) else if op = 5 then mostB c M1 m1 M2 m2 d md else if op = 6 then tildeB c M1 m1 M2 m2 t2 md pd else caretB c M1 m1 t1 M2 m2 t2 md pd
theorem checkOp_any (op : Int) (hop : 0 ≤ op ∧ op < 8) (M1 m1 t1 : Int) (u1 v1 : ByteArray) (M2 m2 t2 : Int) (u2 v2 : ByteArray) (d md pd : Bool) (a p q : Nat) (w : World) (hG0 : Gl w) (s1 : u1.size < 8796093022208) (s2 : u2.size < 8796093022208) (hV : VAt w a M1 m1 t1 u1 v1) (hC : VAt w p M2 m2 t2 u2 v2) (hK : KAt w q p (opText op) d md pd) (pre : Bool) (hne : a ≠ p) (hA : HAt w a) (hP : HAt w p) :
  Calls Tryd.prog 156 #[.pointer (some ⟨q, 0, none⟩), .pointer (some ⟨a, 0, none⟩), .bool pre] w fun e w' => (∃ ev, e = .returned (.tuple #[.bool (openB pre u1 && saysB op (cmpVer M1 m1 t1 u1 M2 m2 t2 u2) (MA.cmpPre u1 u2) M1 m1 t1 u1.toList.isEmpty M2 m2 t2 u2.toList.isEmpty d md pd), ev])) ∧ Below w.heap.size w w' := by
 rcases (show op = 0 ∨ op = 1 ∨ op = 2 ∨ op = 3 ∨ op = 4 ∨ op = 5 ∨ op = 6 ∨ op = 7 by omega) with rfl | rfl | rfl | rfl | rfl | rfl | rfl | rfl
 ·
  exact checkOp_0 M1 m1 t1 u1 v1 M2 m2 t2 u2 v2 d md pd a p q w hG0 s1 s2 hV hC hK pre hne hA hP
 ·
  exact checkOp_1 M1 m1 t1 u1 v1 M2 m2 t2 u2 v2 d md pd a p q w hG0 s1 s2 hV hC hK pre hne hA hP
 ·
  exact checkOp_2 M1 m1 t1 u1 v1 M2 m2 t2 u2 v2 d md pd a p q w hG0 s1 s2 hV hC hK pre
 ·
  exact checkOp_3 M1 m1 t1 u1 v1 M2 m2 t2 u2 v2 d md pd a p q w hG0 s1 s2 hV hC hK pre
 ·
  exact checkOp_4 M1 m1 t1 u1 v1 M2 m2 t2 u2 v2 d md pd a p q w hG0 s1 s2 hV hC hK pre
 ·
  exact checkOp_5 M1 m1 t1 u1 v1 M2 m2 t2 u2 v2 d md pd a p q w hG0 s1 s2 hV hC hK pre
 ·
  exact checkOp_6 M1 m1 t1 u1 v1 M2 m2 t2 u2 v2 d md pd a p q w hG0 s1 s2 hV hC hK pre
 ·
  exact checkOp_7 M1 m1 t1 u1 v1 M2 m2 t2 u2 v2 d md pd a p q w hG0 s1 s2 hV hC hK pre
end Go.Proofs.YtalpehfjjidfhaaDoor.Hand
