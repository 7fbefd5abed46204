/- What is proved: the kind of an error: nil, each of the sentinels of versions. -/
import Derived.Test.YtalpehfjjidfhaaDoorIs
namespace Go.Proofs.YtalpehfjjidfhaaDoor.Is
open Go Go.RowKit Sv Hand MS
open Go.Proofs.YtalpehfjjidfhaaDoorW.PrintWords
set_option linter.unusedVariables false
set_option linter.unusedSimpArgs false
/-- The sentinels' places: all different, each in a block of its own. -/
def Dst (E : Nat → Addr) (S : List Nat) (w : World) : Prop := ∀ i ∈ S, (∃ c t, w.heap[(E i).block]? = some (.cells c t (0, 0))) ∧ ∀ j ∈ S, i ≠ j → E i ≠ E j
theorem Dst.below {E : Nat → Addr} {S : List Nat} {w w' : World} (h : Dst E S w) (hb : Below w.heap.size w w') : Dst E S w' := by
  intro i hi
  obtain ⟨⟨c, t, h1⟩, h2⟩ := h i hi
  exact ⟨⟨c, t, blk_below h1 hb⟩, h2⟩
theorem Dst.sub {E : Nat → Addr} {S S' : List Nat} {w : World} (h : Dst E S w) (hs : ∀ x ∈ S', x ∈ S) : Dst E S' w :=
  fun i hi => ⟨(h i (hs i hi)).1, fun j hj => (h i (hs i hi)).2 j (hs j hj)⟩
theorem is_oth {E : Nat → Addr} {S : List Nat} {w : World} (h : Dst E S w) (i j : Nat) (hi : i ∈ S) (hj : j ∈ S) (hij : i ≠ j) :
    Calls Tryd.prog 125 #[.iface 176 (.pointer (some (E i))), .iface 176 (.pointer (some (E j)))] w fun e w' => e = .returned (.bool false) ∧ w' = w := by
  obtain ⟨⟨ca, ta, ha⟩, hn⟩ := h i hi
  obtain ⟨⟨cb, tb, hb⟩, _⟩ := h j hj
  exact is_other (E i) (E j) ca cb ta tb w (hn j hj hij) ha hb
set_option maxRecDepth 100000 in
theorem kind_0 (w : World) : Calls Tryd.prog 77 #[.nilIface] w fun e w' => e = .returned (.int .i64 0) ∧ w' = w := by
  go_enter Tryd.func77, Tryd.ntmps77
  go_wp2
  go_ret
  exact ⟨rfl, rfl⟩
set_option maxHeartbeats 4000000 in
set_option maxRecDepth 100000 in
theorem kind_1 (E : Nat → Addr) (S : List Nat) (w : World) (hE : Ge E S w) (hD : Dst E S w) (hS : ∀ x ∈ [0], x ∈ S) : Calls Tryd.prog 77 #[.iface 176 (.pointer (some (E 0)))] w fun e w' => e = .returned (.int .i64 1) ∧ w' = w := by
  have g0 := (hE 0 (hS 0 (by simp))).1
  have HD := Aside0.mk hD
  have HS := Aside0.mk hS
  clear hE hD hS
  go_enter Tryd.func77, Tryd.ntmps77
  go_wp2_with (first | (go_at_call 125; (with_reducible refine (is_same (E 0) _).mono ?_); rintro e w1 ⟨rfl, rfl⟩))
  go_ret
  exact ⟨rfl, rfl⟩
set_option maxHeartbeats 4000000 in
set_option maxRecDepth 100000 in
theorem kind_2 (E : Nat → Addr) (S : List Nat) (w : World) (hE : Ge E S w) (hD : Dst E S w) (hS : ∀ x ∈ [0, 1], x ∈ S) : Calls Tryd.prog 77 #[.iface 176 (.pointer (some (E 1)))] w fun e w' => e = .returned (.int .i64 2) ∧ w' = w := by
  have g0 := (hE 0 (hS 0 (by simp))).1
  have g1 := (hE 1 (hS 1 (by simp))).1
  have HD := Aside0.mk hD
  have HS := Aside0.mk hS
  clear hE hD hS
  go_enter Tryd.func77, Tryd.ntmps77
  go_wp2_with (first | (go_at_call 125; (with_reducible refine (is_same (E 1) _).mono ?_); rintro e w1 ⟨rfl, rfl⟩) | (go_at_call 125; (with_reducible refine (is_oth HD.out 1 0 (HS.out _ (by simp)) (HS.out _ (by simp)) (by decide)).mono ?_); rintro e w1 ⟨rfl, rfl⟩))
  go_ret
  exact ⟨rfl, rfl⟩
set_option maxHeartbeats 4000000 in
set_option maxRecDepth 100000 in
theorem kind_3 (E : Nat → Addr) (S : List Nat) (w : World) (hE : Ge E S w) (hD : Dst E S w) (hS : ∀ x ∈ [0, 1, 2], x ∈ S) : Calls Tryd.prog 77 #[.iface 176 (.pointer (some (E 2)))] w fun e w' => e = .returned (.int .i64 3) ∧ w' = w := by
  have g0 := (hE 0 (hS 0 (by simp))).1
  have g1 := (hE 1 (hS 1 (by simp))).1
  have g2 := (hE 2 (hS 2 (by simp))).1
  have HD := Aside0.mk hD
  have HS := Aside0.mk hS
  clear hE hD hS
  go_enter Tryd.func77, Tryd.ntmps77
  go_wp2_with (first | (go_at_call 125; (with_reducible refine (is_same (E 2) _).mono ?_); rintro e w1 ⟨rfl, rfl⟩) | (go_at_call 125; (with_reducible refine (is_oth HD.out 2 0 (HS.out _ (by simp)) (HS.out _ (by simp)) (by decide)).mono ?_); rintro e w1 ⟨rfl, rfl⟩) | (go_at_call 125; (with_reducible refine (is_oth HD.out 2 1 (HS.out _ (by simp)) (HS.out _ (by simp)) (by decide)).mono ?_); rintro e w1 ⟨rfl, rfl⟩))
  go_ret
  exact ⟨rfl, rfl⟩
set_option maxHeartbeats 4000000 in
set_option maxRecDepth 100000 in
theorem kind_4 (E : Nat → Addr) (S : List Nat) (w : World) (hE : Ge E S w) (hD : Dst E S w) (hS : ∀ x ∈ [0, 1, 2, 3], x ∈ S) : Calls Tryd.prog 77 #[.iface 176 (.pointer (some (E 3)))] w fun e w' => e = .returned (.int .i64 4) ∧ w' = w := by
  have g0 := (hE 0 (hS 0 (by simp))).1
  have g1 := (hE 1 (hS 1 (by simp))).1
  have g2 := (hE 2 (hS 2 (by simp))).1
  have g3 := (hE 3 (hS 3 (by simp))).1
  have HD := Aside0.mk hD
  have HS := Aside0.mk hS
  clear hE hD hS
  go_enter Tryd.func77, Tryd.ntmps77
  go_wp2_with (first | (go_at_call 125; (with_reducible refine (is_same (E 3) _).mono ?_); rintro e w1 ⟨rfl, rfl⟩) | (go_at_call 125; (with_reducible refine (is_oth HD.out 3 0 (HS.out _ (by simp)) (HS.out _ (by simp)) (by decide)).mono ?_); rintro e w1 ⟨rfl, rfl⟩) | (go_at_call 125; (with_reducible refine (is_oth HD.out 3 1 (HS.out _ (by simp)) (HS.out _ (by simp)) (by decide)).mono ?_); rintro e w1 ⟨rfl, rfl⟩) | (go_at_call 125; (with_reducible refine (is_oth HD.out 3 2 (HS.out _ (by simp)) (HS.out _ (by simp)) (by decide)).mono ?_); rintro e w1 ⟨rfl, rfl⟩))
  go_ret
  exact ⟨rfl, rfl⟩
set_option maxHeartbeats 4000000 in
set_option maxRecDepth 100000 in
theorem kind_5 (E : Nat → Addr) (S : List Nat) (w : World) (hE : Ge E S w) (hD : Dst E S w) (hS : ∀ x ∈ [0, 1, 2, 3, 4], x ∈ S) : Calls Tryd.prog 77 #[.iface 176 (.pointer (some (E 4)))] w fun e w' => e = .returned (.int .i64 5) ∧ w' = w := by
  have g0 := (hE 0 (hS 0 (by simp))).1
  have g1 := (hE 1 (hS 1 (by simp))).1
  have g2 := (hE 2 (hS 2 (by simp))).1
  have g3 := (hE 3 (hS 3 (by simp))).1
  have g4 := (hE 4 (hS 4 (by simp))).1
  have HD := Aside0.mk hD
  have HS := Aside0.mk hS
  clear hE hD hS
  go_enter Tryd.func77, Tryd.ntmps77
  go_wp2_with (first | (go_at_call 125; (with_reducible refine (is_same (E 4) _).mono ?_); rintro e w1 ⟨rfl, rfl⟩) | (go_at_call 125; (with_reducible refine (is_oth HD.out 4 0 (HS.out _ (by simp)) (HS.out _ (by simp)) (by decide)).mono ?_); rintro e w1 ⟨rfl, rfl⟩) | (go_at_call 125; (with_reducible refine (is_oth HD.out 4 1 (HS.out _ (by simp)) (HS.out _ (by simp)) (by decide)).mono ?_); rintro e w1 ⟨rfl, rfl⟩) | (go_at_call 125; (with_reducible refine (is_oth HD.out 4 2 (HS.out _ (by simp)) (HS.out _ (by simp)) (by decide)).mono ?_); rintro e w1 ⟨rfl, rfl⟩) | (go_at_call 125; (with_reducible refine (is_oth HD.out 4 3 (HS.out _ (by simp)) (HS.out _ (by simp)) (by decide)).mono ?_); rintro e w1 ⟨rfl, rfl⟩))
  go_ret
  exact ⟨rfl, rfl⟩
set_option maxHeartbeats 4000000 in
set_option maxRecDepth 100000 in
theorem kind_6 (E : Nat → Addr) (S : List Nat) (w : World) (hE : Ge E S w) (hD : Dst E S w) (hS : ∀ x ∈ [0, 1, 2, 3, 4, 5], x ∈ S) : Calls Tryd.prog 77 #[.iface 176 (.pointer (some (E 5)))] w fun e w' => e = .returned (.int .i64 6) ∧ w' = w := by
  have g0 := (hE 0 (hS 0 (by simp))).1
  have g1 := (hE 1 (hS 1 (by simp))).1
  have g2 := (hE 2 (hS 2 (by simp))).1
  have g3 := (hE 3 (hS 3 (by simp))).1
  have g4 := (hE 4 (hS 4 (by simp))).1
  have g5 := (hE 5 (hS 5 (by simp))).1
  have HD := Aside0.mk hD
  have HS := Aside0.mk hS
  clear hE hD hS
  go_enter Tryd.func77, Tryd.ntmps77
  go_wp2_with (first | (go_at_call 125; (with_reducible refine (is_same (E 5) _).mono ?_); rintro e w1 ⟨rfl, rfl⟩) | (go_at_call 125; (with_reducible refine (is_oth HD.out 5 0 (HS.out _ (by simp)) (HS.out _ (by simp)) (by decide)).mono ?_); rintro e w1 ⟨rfl, rfl⟩) | (go_at_call 125; (with_reducible refine (is_oth HD.out 5 1 (HS.out _ (by simp)) (HS.out _ (by simp)) (by decide)).mono ?_); rintro e w1 ⟨rfl, rfl⟩) | (go_at_call 125; (with_reducible refine (is_oth HD.out 5 2 (HS.out _ (by simp)) (HS.out _ (by simp)) (by decide)).mono ?_); rintro e w1 ⟨rfl, rfl⟩) | (go_at_call 125; (with_reducible refine (is_oth HD.out 5 3 (HS.out _ (by simp)) (HS.out _ (by simp)) (by decide)).mono ?_); rintro e w1 ⟨rfl, rfl⟩) | (go_at_call 125; (with_reducible refine (is_oth HD.out 5 4 (HS.out _ (by simp)) (HS.out _ (by simp)) (by decide)).mono ?_); rintro e w1 ⟨rfl, rfl⟩))
  go_ret
  exact ⟨rfl, rfl⟩
set_option maxHeartbeats 4000000 in
set_option maxRecDepth 100000 in
theorem kind_7 (E : Nat → Addr) (S : List Nat) (w : World) (hE : Ge E S w) (hD : Dst E S w) (hS : ∀ x ∈ [0, 1, 2, 3, 4, 5, 6], x ∈ S) : Calls Tryd.prog 77 #[.iface 176 (.pointer (some (E 6)))] w fun e w' => e = .returned (.int .i64 7) ∧ w' = w := by
  have g0 := (hE 0 (hS 0 (by simp))).1
  have g1 := (hE 1 (hS 1 (by simp))).1
  have g2 := (hE 2 (hS 2 (by simp))).1
  have g3 := (hE 3 (hS 3 (by simp))).1
  have g4 := (hE 4 (hS 4 (by simp))).1
  have g5 := (hE 5 (hS 5 (by simp))).1
  have g6 := (hE 6 (hS 6 (by simp))).1
  have HD := Aside0.mk hD
  have HS := Aside0.mk hS
  clear hE hD hS
  go_enter Tryd.func77, Tryd.ntmps77
  go_wp2_with (first | (go_at_call 125; (with_reducible refine (is_same (E 6) _).mono ?_); rintro e w1 ⟨rfl, rfl⟩) | (go_at_call 125; (with_reducible refine (is_oth HD.out 6 0 (HS.out _ (by simp)) (HS.out _ (by simp)) (by decide)).mono ?_); rintro e w1 ⟨rfl, rfl⟩) | (go_at_call 125; (with_reducible refine (is_oth HD.out 6 1 (HS.out _ (by simp)) (HS.out _ (by simp)) (by decide)).mono ?_); rintro e w1 ⟨rfl, rfl⟩) | (go_at_call 125; (with_reducible refine (is_oth HD.out 6 2 (HS.out _ (by simp)) (HS.out _ (by simp)) (by decide)).mono ?_); rintro e w1 ⟨rfl, rfl⟩) | (go_at_call 125; (with_reducible refine (is_oth HD.out 6 3 (HS.out _ (by simp)) (HS.out _ (by simp)) (by decide)).mono ?_); rintro e w1 ⟨rfl, rfl⟩) | (go_at_call 125; (with_reducible refine (is_oth HD.out 6 4 (HS.out _ (by simp)) (HS.out _ (by simp)) (by decide)).mono ?_); rintro e w1 ⟨rfl, rfl⟩) | (go_at_call 125; (with_reducible refine (is_oth HD.out 6 5 (HS.out _ (by simp)) (HS.out _ (by simp)) (by decide)).mono ?_); rintro e w1 ⟨rfl, rfl⟩))
  go_ret
  exact ⟨rfl, rfl⟩
end Go.Proofs.YtalpehfjjidfhaaDoor.Is
