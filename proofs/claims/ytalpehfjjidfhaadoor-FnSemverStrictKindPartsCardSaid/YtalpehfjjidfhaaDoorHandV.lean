/- What is proved: by hand, the comparison of two versions, as a plain function of their parts. -/
import Derived.Test.YtalpehfjjidfhaaDoorPreHead
import Derived.WalkKit
import Derived.ProofKit
import Derived.OpenShut
import Derived.ShutString
import Derived.ChangeOld
import Derived.Below
import Derived.SizedLaws
import Derived.WalkSpells
import Derived.WalkLawsBesides
import Derived.Lib.Hide
import Derived.BigQuiet
import Derived.Deep.QuietTactic
import Derived.Deep.RegionHeld3
namespace Go.Proofs.YtalpehfjjidfhaaDoor.Hand
set_option linter.unusedVariables false
open Go.RowKit Go.Proofs.YtalpehfjjidfhaaDoorW.PrintWords Sv
set_option maxHeartbeats 400000 in
theorem Major_any (M m t : Int) (u v o : ByteArray) (w : World) : Calls Tryd.prog 132 #[.agg #[.int .u64 M, .int .u64 m, .int .u64 t, .string u, .string v, .string o]] w fun e w' => e = .returned (.int .u64 M) ∧ Below w.heap.size w w' := by
  go_enter Tryd.func132, Tryd.ntmps132
  go_wp2
  go_ret
  exact ⟨rfl, (Below.refl _ _).alloc (Nat.le_refl _) _⟩
set_option maxHeartbeats 400000 in
theorem Minor_any (M m t : Int) (u v o : ByteArray) (w : World) : Calls Tryd.prog 133 #[.agg #[.int .u64 M, .int .u64 m, .int .u64 t, .string u, .string v, .string o]] w fun e w' => e = .returned (.int .u64 m) ∧ Below w.heap.size w w' := by
  go_enter Tryd.func133, Tryd.ntmps133
  go_wp2
  go_ret
  exact ⟨rfl, (Below.refl _ _).alloc (Nat.le_refl _) _⟩
set_option maxHeartbeats 400000 in
theorem Patch_any (M m t : Int) (u v o : ByteArray) (w : World) : Calls Tryd.prog 134 #[.agg #[.int .u64 M, .int .u64 m, .int .u64 t, .string u, .string v, .string o]] w fun e w' => e = .returned (.int .u64 t) ∧ Below w.heap.size w w' := by
  go_enter Tryd.func134, Tryd.ntmps134
  go_wp2
  go_ret
  exact ⟨rfl, (Below.refl _ _).alloc (Nat.le_refl _) _⟩
set_option maxHeartbeats 400000 in
theorem Prerelease_any (M m t : Int) (u v o : ByteArray) (w : World) : Calls Tryd.prog 135 #[.agg #[.int .u64 M, .int .u64 m, .int .u64 t, .string u, .string v, .string o]] w fun e w' => e = .returned (.string u) ∧ Below w.heap.size w w' := by
  go_enter Tryd.func135, Tryd.ntmps135
  go_wp2
  go_ret
  exact ⟨rfl, (Below.refl _ _).alloc (Nat.le_refl _) _⟩
def seg (a b : Int) : Int := if a < b then -1 else if b < a then 1 else 0
set_option maxHeartbeats 400000 in
theorem compareSegment_any (a b : Int) (w : World) : Calls Tryd.prog 131 #[.int .u64 a, .int .u64 b] w fun e w' => e = .returned (.int .i64 (seg a b)) ∧ Below w.heap.size w w' := by
  unfold seg
  by_cases h1 : a < b
  · rw [if_pos h1]
    go_enter Tryd.func131, Tryd.ntmps131
    go_wp2
    go_ret
    exact ⟨rfl, Below.refl _ _⟩
  · by_cases h2 : b < a
    · rw [if_neg h1, if_pos h2]
      go_enter Tryd.func131, Tryd.ntmps131
      go_wp2
      go_ret
      exact ⟨rfl, Below.refl _ _⟩
    · rw [if_neg h1, if_neg h2]
      go_enter Tryd.func131, Tryd.ntmps131
      go_wp2
      go_ret
      exact ⟨rfl, Below.refl _ _⟩
theorem keepV {w cur w2 : World} {p q : Nat} {M1 m1 t1 : Int} {u1 v1 o1 : ByteArray} {M2 m2 t2 : Int} {u2 v2 o2 : ByteArray} (hp : p < w.heap.size) (hq : q < w.heap.size)
    (h : cur.cell? ⟨p, 0, none⟩ = some (.int .u64 M1) ∧ cur.cell? ⟨p, 1, none⟩ = some (.int .u64 m1) ∧ cur.cell? ⟨p, 2, none⟩ = some (.int .u64 t1) ∧ cur.cell? ⟨p, 3, none⟩ = some (.string u1) ∧ cur.cell? ⟨p, 4, none⟩ = some (.string v1) ∧ cur.cell? ⟨p, 5, none⟩ = some (.string o1) ∧ cur.cell? ⟨q, 0, none⟩ = some (.int .u64 M2) ∧ cur.cell? ⟨q, 1, none⟩ = some (.int .u64 m2) ∧ cur.cell? ⟨q, 2, none⟩ = some (.int .u64 t2) ∧ cur.cell? ⟨q, 3, none⟩ = some (.string u2) ∧ cur.cell? ⟨q, 4, none⟩ = some (.string v2) ∧ cur.cell? ⟨q, 5, none⟩ = some (.string o2) ∧ Below w.heap.size w cur) (hb : Below cur.heap.size cur w2) : w2.cell? ⟨p, 0, none⟩ = some (.int .u64 M1) ∧ w2.cell? ⟨p, 1, none⟩ = some (.int .u64 m1) ∧ w2.cell? ⟨p, 2, none⟩ = some (.int .u64 t1) ∧ w2.cell? ⟨p, 3, none⟩ = some (.string u1) ∧ w2.cell? ⟨p, 4, none⟩ = some (.string v1) ∧ w2.cell? ⟨p, 5, none⟩ = some (.string o1) ∧ w2.cell? ⟨q, 0, none⟩ = some (.int .u64 M2) ∧ w2.cell? ⟨q, 1, none⟩ = some (.int .u64 m2) ∧ w2.cell? ⟨q, 2, none⟩ = some (.int .u64 t2) ∧ w2.cell? ⟨q, 3, none⟩ = some (.string u2) ∧ w2.cell? ⟨q, 4, none⟩ = some (.string v2) ∧ w2.cell? ⟨q, 5, none⟩ = some (.string o2) ∧ Below w.heap.size w w2 := by
  obtain ⟨h0, h1, h2, h3, h4, h5, h6, h7, h8, h9, h10, h11, hB⟩ := h
  have hs := hB.size
  refine ⟨(hb.cell (p := ⟨p, 0, none⟩) (show p < _ by omega)).trans h0, (hb.cell (p := ⟨p, 1, none⟩) (show p < _ by omega)).trans h1, (hb.cell (p := ⟨p, 2, none⟩) (show p < _ by omega)).trans h2, (hb.cell (p := ⟨p, 3, none⟩) (show p < _ by omega)).trans h3, (hb.cell (p := ⟨p, 4, none⟩) (show p < _ by omega)).trans h4, (hb.cell (p := ⟨p, 5, none⟩) (show p < _ by omega)).trans h5, (hb.cell (p := ⟨q, 0, none⟩) (show q < _ by omega)).trans h6, (hb.cell (p := ⟨q, 1, none⟩) (show q < _ by omega)).trans h7, (hb.cell (p := ⟨q, 2, none⟩) (show q < _ by omega)).trans h8, (hb.cell (p := ⟨q, 3, none⟩) (show q < _ by omega)).trans h9, (hb.cell (p := ⟨q, 4, none⟩) (show q < _ by omega)).trans h10, (hb.cell (p := ⟨q, 5, none⟩) (show q < _ by omega)).trans h11, hB.trans (hb.mono hB.size)⟩
theorem keepVd {w cur : World} {p q : Nat} {M1 m1 t1 : Int} {u1 v1 o1 : ByteArray} {M2 m2 t2 : Int} {u2 v2 o2 : ByteArray}
    (h : cur.cell? ⟨p, 0, none⟩ = some (.int .u64 M1) ∧ cur.cell? ⟨p, 1, none⟩ = some (.int .u64 m1) ∧ cur.cell? ⟨p, 2, none⟩ = some (.int .u64 t1) ∧ cur.cell? ⟨p, 3, none⟩ = some (.string u1) ∧ cur.cell? ⟨p, 4, none⟩ = some (.string v1) ∧ cur.cell? ⟨p, 5, none⟩ = some (.string o1) ∧ cur.cell? ⟨q, 0, none⟩ = some (.int .u64 M2) ∧ cur.cell? ⟨q, 1, none⟩ = some (.int .u64 m2) ∧ cur.cell? ⟨q, 2, none⟩ = some (.int .u64 t2) ∧ cur.cell? ⟨q, 3, none⟩ = some (.string u2) ∧ cur.cell? ⟨q, 4, none⟩ = some (.string v2) ∧ cur.cell? ⟨q, 5, none⟩ = some (.string o2) ∧ Below w.heap.size w cur) : cur.drew.cell? ⟨p, 0, none⟩ = some (.int .u64 M1) ∧ cur.drew.cell? ⟨p, 1, none⟩ = some (.int .u64 m1) ∧ cur.drew.cell? ⟨p, 2, none⟩ = some (.int .u64 t1) ∧ cur.drew.cell? ⟨p, 3, none⟩ = some (.string u1) ∧ cur.drew.cell? ⟨p, 4, none⟩ = some (.string v1) ∧ cur.drew.cell? ⟨p, 5, none⟩ = some (.string o1) ∧ cur.drew.cell? ⟨q, 0, none⟩ = some (.int .u64 M2) ∧ cur.drew.cell? ⟨q, 1, none⟩ = some (.int .u64 m2) ∧ cur.drew.cell? ⟨q, 2, none⟩ = some (.int .u64 t2) ∧ cur.drew.cell? ⟨q, 3, none⟩ = some (.string u2) ∧ cur.drew.cell? ⟨q, 4, none⟩ = some (.string v2) ∧ cur.drew.cell? ⟨q, 5, none⟩ = some (.string o2) ∧ Below w.heap.size w cur.drew := by
  obtain ⟨h0, h1, h2, h3, h4, h5, h6, h7, h8, h9, h10, h11, hB⟩ := h
  exact ⟨h0, h1, h2, h3, h4, h5, h6, h7, h8, h9, h10, h11, hB.drew⟩
def preCmp (u1 u2 : ByteArray) : Int := if u1.toList = [] ∧ u2.toList = [] then 0 else if u1.toList = [] then 1 else if u2.toList = [] then -1 else MA.cmpPre u1 u2
def cmpVer (M1 m1 t1 : Int) (u1 : ByteArray) (M2 m2 t2 : Int) (u2 : ByteArray) : Int :=
  if seg M1 M2 = 0 then if seg m1 m2 = 0 then if seg t1 t2 = 0 then preCmp u1 u2 else seg t1 t2 else seg m1 m2 else seg M1 M2
structure KV (K : Prop) : Prop where mk :: (out : K)
theorem kvB {N : Nat} {w cur : World} {p q : Nat} {M1 m1 t1 : Int} {u1 v1 o1 : ByteArray} {M2 m2 t2 : Int} {u2 v2 o2 : ByteArray} (h : cur.cell? ⟨p, 0, none⟩ = some (.int .u64 M1) ∧ cur.cell? ⟨p, 1, none⟩ = some (.int .u64 m1) ∧ cur.cell? ⟨p, 2, none⟩ = some (.int .u64 t1) ∧ cur.cell? ⟨p, 3, none⟩ = some (.string u1) ∧ cur.cell? ⟨p, 4, none⟩ = some (.string v1) ∧ cur.cell? ⟨p, 5, none⟩ = some (.string o1) ∧ cur.cell? ⟨q, 0, none⟩ = some (.int .u64 M2) ∧ cur.cell? ⟨q, 1, none⟩ = some (.int .u64 m2) ∧ cur.cell? ⟨q, 2, none⟩ = some (.int .u64 t2) ∧ cur.cell? ⟨q, 3, none⟩ = some (.string u2) ∧ cur.cell? ⟨q, 4, none⟩ = some (.string v2) ∧ cur.cell? ⟨q, 5, none⟩ = some (.string o2) ∧ Below N w cur) : Below N w cur := h.2.2.2.2.2.2.2.2.2.2.2.2
set_option maxHeartbeats 4000000 in
theorem Compare_M (M1 m1 t1 : Int) (u1 v1 o1 : ByteArray) (M2 m2 t2 : Int) (u2 v2 o2 : ByteArray) (p q : Nat) (w : World) (hp : p < w.heap.size) (hq : q < w.heap.size) (hk : w.cell? ⟨p, 0, none⟩ = some (.int .u64 M1) ∧ w.cell? ⟨p, 1, none⟩ = some (.int .u64 m1) ∧ w.cell? ⟨p, 2, none⟩ = some (.int .u64 t1) ∧ w.cell? ⟨p, 3, none⟩ = some (.string u1) ∧ w.cell? ⟨p, 4, none⟩ = some (.string v1) ∧ w.cell? ⟨p, 5, none⟩ = some (.string o1) ∧ w.cell? ⟨q, 0, none⟩ = some (.int .u64 M2) ∧ w.cell? ⟨q, 1, none⟩ = some (.int .u64 m2) ∧ w.cell? ⟨q, 2, none⟩ = some (.int .u64 t2) ∧ w.cell? ⟨q, 3, none⟩ = some (.string u2) ∧ w.cell? ⟨q, 4, none⟩ = some (.string v2) ∧ w.cell? ⟨q, 5, none⟩ = some (.string o2) ∧ Below w.heap.size w w) (r : Int)  (hr : seg M1 M2 = r) (hne : r ≠ 0) :
    Calls Tryd.prog 84 #[.pointer (some ⟨p, 0, none⟩), .pointer (some ⟨q, 0, none⟩)] w fun e w' => e = .returned (.int .i64 r) ∧ Below w.heap.size w w' := by
  have b1 : (r == 0) = false := beq_eq_false_iff_ne.2 hne
  go_enter Tryd.func84, Tryd.ntmps84
  go_wp2_with fail
  go_region_held3 (fun w' => w'.cell? ⟨p, 0, none⟩ = some (.int .u64 M1) ∧ w'.cell? ⟨p, 1, none⟩ = some (.int .u64 m1) ∧ w'.cell? ⟨p, 2, none⟩ = some (.int .u64 t1) ∧ w'.cell? ⟨p, 3, none⟩ = some (.string u1) ∧ w'.cell? ⟨p, 4, none⟩ = some (.string v1) ∧ w'.cell? ⟨p, 5, none⟩ = some (.string o1) ∧ w'.cell? ⟨q, 0, none⟩ = some (.int .u64 M2) ∧ w'.cell? ⟨q, 1, none⟩ = some (.int .u64 m2) ∧ w'.cell? ⟨q, 2, none⟩ = some (.int .u64 t2) ∧ w'.cell? ⟨q, 3, none⟩ = some (.string u2) ∧ w'.cell? ⟨q, 4, none⟩ = some (.string v2) ∧ w'.cell? ⟨q, 5, none⟩ = some (.string o2) ∧ Below w.heap.size w w') (first | exact keepVd hk | exact keepVd ‹_› | exact keepV hp hq ‹_› ‹_› | go_keep)
    (first | (go_at_call 132; (with_reducible refine (Major_any M1 m1 t1 u1 v1 o1 _).mono ?_); rintro e w11 ⟨rfl, hb11⟩) | (go_at_call 132; (with_reducible refine (Major_any M2 m2 t2 u2 v2 o2 _).mono ?_); rintro e w12 ⟨rfl, hb12⟩) | (go_at_call 131; (with_reducible refine (compareSegment_any M1 M2 _).mono ?_); rintro e w13 ⟨rfl, hb13⟩))
  go_wp2_with fail
  go_ret
  exact ⟨rfl, kvB ‹_›⟩
set_option maxHeartbeats 4000000 in
theorem Compare_m (M1 m1 t1 : Int) (u1 v1 o1 : ByteArray) (M2 m2 t2 : Int) (u2 v2 o2 : ByteArray) (p q : Nat) (w : World) (hp : p < w.heap.size) (hq : q < w.heap.size) (hk : w.cell? ⟨p, 0, none⟩ = some (.int .u64 M1) ∧ w.cell? ⟨p, 1, none⟩ = some (.int .u64 m1) ∧ w.cell? ⟨p, 2, none⟩ = some (.int .u64 t1) ∧ w.cell? ⟨p, 3, none⟩ = some (.string u1) ∧ w.cell? ⟨p, 4, none⟩ = some (.string v1) ∧ w.cell? ⟨p, 5, none⟩ = some (.string o1) ∧ w.cell? ⟨q, 0, none⟩ = some (.int .u64 M2) ∧ w.cell? ⟨q, 1, none⟩ = some (.int .u64 m2) ∧ w.cell? ⟨q, 2, none⟩ = some (.int .u64 t2) ∧ w.cell? ⟨q, 3, none⟩ = some (.string u2) ∧ w.cell? ⟨q, 4, none⟩ = some (.string v2) ∧ w.cell? ⟨q, 5, none⟩ = some (.string o2) ∧ Below w.heap.size w w) (r : Int) (z0 : seg M1 M2 = 0) (hr : seg m1 m2 = r) (hne : r ≠ 0) :
    Calls Tryd.prog 84 #[.pointer (some ⟨p, 0, none⟩), .pointer (some ⟨q, 0, none⟩)] w fun e w' => e = .returned (.int .i64 r) ∧ Below w.heap.size w w' := by
  have b1 : (r == 0) = false := beq_eq_false_iff_ne.2 hne
  go_enter Tryd.func84, Tryd.ntmps84
  go_wp2_with fail
  go_region_held3 (fun w' => w'.cell? ⟨p, 0, none⟩ = some (.int .u64 M1) ∧ w'.cell? ⟨p, 1, none⟩ = some (.int .u64 m1) ∧ w'.cell? ⟨p, 2, none⟩ = some (.int .u64 t1) ∧ w'.cell? ⟨p, 3, none⟩ = some (.string u1) ∧ w'.cell? ⟨p, 4, none⟩ = some (.string v1) ∧ w'.cell? ⟨p, 5, none⟩ = some (.string o1) ∧ w'.cell? ⟨q, 0, none⟩ = some (.int .u64 M2) ∧ w'.cell? ⟨q, 1, none⟩ = some (.int .u64 m2) ∧ w'.cell? ⟨q, 2, none⟩ = some (.int .u64 t2) ∧ w'.cell? ⟨q, 3, none⟩ = some (.string u2) ∧ w'.cell? ⟨q, 4, none⟩ = some (.string v2) ∧ w'.cell? ⟨q, 5, none⟩ = some (.string o2) ∧ Below w.heap.size w w') (first | exact keepVd hk | exact keepVd ‹_› | exact keepV hp hq ‹_› ‹_› | go_keep)
    (first | (go_at_call 132; (with_reducible refine (Major_any M1 m1 t1 u1 v1 o1 _).mono ?_); rintro e w11 ⟨rfl, hb11⟩) | (go_at_call 132; (with_reducible refine (Major_any M2 m2 t2 u2 v2 o2 _).mono ?_); rintro e w12 ⟨rfl, hb12⟩) | (go_at_call 131; (with_reducible refine (compareSegment_any M1 M2 _).mono ?_); rintro e w13 ⟨rfl, hb13⟩))
  go_wp2_with fail
  go_region_held3 (fun w' => w'.cell? ⟨p, 0, none⟩ = some (.int .u64 M1) ∧ w'.cell? ⟨p, 1, none⟩ = some (.int .u64 m1) ∧ w'.cell? ⟨p, 2, none⟩ = some (.int .u64 t1) ∧ w'.cell? ⟨p, 3, none⟩ = some (.string u1) ∧ w'.cell? ⟨p, 4, none⟩ = some (.string v1) ∧ w'.cell? ⟨p, 5, none⟩ = some (.string o1) ∧ w'.cell? ⟨q, 0, none⟩ = some (.int .u64 M2) ∧ w'.cell? ⟨q, 1, none⟩ = some (.int .u64 m2) ∧ w'.cell? ⟨q, 2, none⟩ = some (.int .u64 t2) ∧ w'.cell? ⟨q, 3, none⟩ = some (.string u2) ∧ w'.cell? ⟨q, 4, none⟩ = some (.string v2) ∧ w'.cell? ⟨q, 5, none⟩ = some (.string o2) ∧ Below w.heap.size w w') (first | exact keepVd hk | exact keepVd ‹_› | exact keepV hp hq ‹_› ‹_› | go_keep)
    (first | (go_at_call 133; (with_reducible refine (Minor_any M1 m1 t1 u1 v1 o1 _).mono ?_); rintro e w11 ⟨rfl, hb11⟩) | (go_at_call 133; (with_reducible refine (Minor_any M2 m2 t2 u2 v2 o2 _).mono ?_); rintro e w12 ⟨rfl, hb12⟩) | (go_at_call 131; (with_reducible refine (compareSegment_any m1 m2 _).mono ?_); rintro e w13 ⟨rfl, hb13⟩))
  go_wp2_with fail
  go_ret
  exact ⟨rfl, kvB ‹_›⟩
set_option maxHeartbeats 4000000 in
theorem Compare_t (M1 m1 t1 : Int) (u1 v1 o1 : ByteArray) (M2 m2 t2 : Int) (u2 v2 o2 : ByteArray) (p q : Nat) (w : World) (hp : p < w.heap.size) (hq : q < w.heap.size) (hk : w.cell? ⟨p, 0, none⟩ = some (.int .u64 M1) ∧ w.cell? ⟨p, 1, none⟩ = some (.int .u64 m1) ∧ w.cell? ⟨p, 2, none⟩ = some (.int .u64 t1) ∧ w.cell? ⟨p, 3, none⟩ = some (.string u1) ∧ w.cell? ⟨p, 4, none⟩ = some (.string v1) ∧ w.cell? ⟨p, 5, none⟩ = some (.string o1) ∧ w.cell? ⟨q, 0, none⟩ = some (.int .u64 M2) ∧ w.cell? ⟨q, 1, none⟩ = some (.int .u64 m2) ∧ w.cell? ⟨q, 2, none⟩ = some (.int .u64 t2) ∧ w.cell? ⟨q, 3, none⟩ = some (.string u2) ∧ w.cell? ⟨q, 4, none⟩ = some (.string v2) ∧ w.cell? ⟨q, 5, none⟩ = some (.string o2) ∧ Below w.heap.size w w) (r : Int) (z0 : seg M1 M2 = 0) (z1 : seg m1 m2 = 0) (hr : seg t1 t2 = r) (hne : r ≠ 0) :
    Calls Tryd.prog 84 #[.pointer (some ⟨p, 0, none⟩), .pointer (some ⟨q, 0, none⟩)] w fun e w' => e = .returned (.int .i64 r) ∧ Below w.heap.size w w' := by
  have b1 : (r == 0) = false := beq_eq_false_iff_ne.2 hne
  go_enter Tryd.func84, Tryd.ntmps84
  go_wp2_with fail
  go_region_held3 (fun w' => w'.cell? ⟨p, 0, none⟩ = some (.int .u64 M1) ∧ w'.cell? ⟨p, 1, none⟩ = some (.int .u64 m1) ∧ w'.cell? ⟨p, 2, none⟩ = some (.int .u64 t1) ∧ w'.cell? ⟨p, 3, none⟩ = some (.string u1) ∧ w'.cell? ⟨p, 4, none⟩ = some (.string v1) ∧ w'.cell? ⟨p, 5, none⟩ = some (.string o1) ∧ w'.cell? ⟨q, 0, none⟩ = some (.int .u64 M2) ∧ w'.cell? ⟨q, 1, none⟩ = some (.int .u64 m2) ∧ w'.cell? ⟨q, 2, none⟩ = some (.int .u64 t2) ∧ w'.cell? ⟨q, 3, none⟩ = some (.string u2) ∧ w'.cell? ⟨q, 4, none⟩ = some (.string v2) ∧ w'.cell? ⟨q, 5, none⟩ = some (.string o2) ∧ Below w.heap.size w w') (first | exact keepVd hk | exact keepVd ‹_› | exact keepV hp hq ‹_› ‹_› | go_keep)
    (first | (go_at_call 132; (with_reducible refine (Major_any M1 m1 t1 u1 v1 o1 _).mono ?_); rintro e w11 ⟨rfl, hb11⟩) | (go_at_call 132; (with_reducible refine (Major_any M2 m2 t2 u2 v2 o2 _).mono ?_); rintro e w12 ⟨rfl, hb12⟩) | (go_at_call 131; (with_reducible refine (compareSegment_any M1 M2 _).mono ?_); rintro e w13 ⟨rfl, hb13⟩))
  go_wp2_with fail
  go_region_held3 (fun w' => w'.cell? ⟨p, 0, none⟩ = some (.int .u64 M1) ∧ w'.cell? ⟨p, 1, none⟩ = some (.int .u64 m1) ∧ w'.cell? ⟨p, 2, none⟩ = some (.int .u64 t1) ∧ w'.cell? ⟨p, 3, none⟩ = some (.string u1) ∧ w'.cell? ⟨p, 4, none⟩ = some (.string v1) ∧ w'.cell? ⟨p, 5, none⟩ = some (.string o1) ∧ w'.cell? ⟨q, 0, none⟩ = some (.int .u64 M2) ∧ w'.cell? ⟨q, 1, none⟩ = some (.int .u64 m2) ∧ w'.cell? ⟨q, 2, none⟩ = some (.int .u64 t2) ∧ w'.cell? ⟨q, 3, none⟩ = some (.string u2) ∧ w'.cell? ⟨q, 4, none⟩ = some (.string v2) ∧ w'.cell? ⟨q, 5, none⟩ = some (.string o2) ∧ Below w.heap.size w w') (first | exact keepVd hk | exact keepVd ‹_› | exact keepV hp hq ‹_› ‹_› | go_keep)
    (first | (go_at_call 133; (with_reducible refine (Minor_any M1 m1 t1 u1 v1 o1 _).mono ?_); rintro e w11 ⟨rfl, hb11⟩) | (go_at_call 133; (with_reducible refine (Minor_any M2 m2 t2 u2 v2 o2 _).mono ?_); rintro e w12 ⟨rfl, hb12⟩) | (go_at_call 131; (with_reducible refine (compareSegment_any m1 m2 _).mono ?_); rintro e w13 ⟨rfl, hb13⟩))
  go_wp2_with fail
  go_region_held3 (fun w' => w'.cell? ⟨p, 0, none⟩ = some (.int .u64 M1) ∧ w'.cell? ⟨p, 1, none⟩ = some (.int .u64 m1) ∧ w'.cell? ⟨p, 2, none⟩ = some (.int .u64 t1) ∧ w'.cell? ⟨p, 3, none⟩ = some (.string u1) ∧ w'.cell? ⟨p, 4, none⟩ = some (.string v1) ∧ w'.cell? ⟨p, 5, none⟩ = some (.string o1) ∧ w'.cell? ⟨q, 0, none⟩ = some (.int .u64 M2) ∧ w'.cell? ⟨q, 1, none⟩ = some (.int .u64 m2) ∧ w'.cell? ⟨q, 2, none⟩ = some (.int .u64 t2) ∧ w'.cell? ⟨q, 3, none⟩ = some (.string u2) ∧ w'.cell? ⟨q, 4, none⟩ = some (.string v2) ∧ w'.cell? ⟨q, 5, none⟩ = some (.string o2) ∧ Below w.heap.size w w') (first | exact keepVd hk | exact keepVd ‹_› | exact keepV hp hq ‹_› ‹_› | go_keep)
    (first | (go_at_call 134; (with_reducible refine (Patch_any M1 m1 t1 u1 v1 o1 _).mono ?_); rintro e w11 ⟨rfl, hb11⟩) | (go_at_call 134; (with_reducible refine (Patch_any M2 m2 t2 u2 v2 o2 _).mono ?_); rintro e w12 ⟨rfl, hb12⟩) | (go_at_call 131; (with_reducible refine (compareSegment_any t1 t2 _).mono ?_); rintro e w13 ⟨rfl, hb13⟩))
  go_wp2_with fail
  go_ret
  exact ⟨rfl, kvB ‹_›⟩
set_option maxHeartbeats 4000000 in
theorem Compare_e0 (M1 m1 t1 : Int) (u1 v1 o1 : ByteArray) (M2 m2 t2 : Int) (u2 v2 o2 : ByteArray) (p q : Nat) (w : World) (hp : p < w.heap.size) (hq : q < w.heap.size) (hk : w.cell? ⟨p, 0, none⟩ = some (.int .u64 M1) ∧ w.cell? ⟨p, 1, none⟩ = some (.int .u64 m1) ∧ w.cell? ⟨p, 2, none⟩ = some (.int .u64 t1) ∧ w.cell? ⟨p, 3, none⟩ = some (.string u1) ∧ w.cell? ⟨p, 4, none⟩ = some (.string v1) ∧ w.cell? ⟨p, 5, none⟩ = some (.string o1) ∧ w.cell? ⟨q, 0, none⟩ = some (.int .u64 M2) ∧ w.cell? ⟨q, 1, none⟩ = some (.int .u64 m2) ∧ w.cell? ⟨q, 2, none⟩ = some (.int .u64 t2) ∧ w.cell? ⟨q, 3, none⟩ = some (.string u2) ∧ w.cell? ⟨q, 4, none⟩ = some (.string v2) ∧ w.cell? ⟨q, 5, none⟩ = some (.string o2) ∧ Below w.heap.size w w) (z0 : seg M1 M2 = 0) (z1 : seg m1 m2 = 0) (z2 : seg t1 t2 = 0) (h1 : u1.toList.isEmpty = true) (h2 : u2.toList.isEmpty = true) :
    Calls Tryd.prog 84 #[.pointer (some ⟨p, 0, none⟩), .pointer (some ⟨q, 0, none⟩)] w fun e w' => e = .returned (.int .i64 0) ∧ Below w.heap.size w w' := by
  go_enter Tryd.func84, Tryd.ntmps84
  go_wp2_with fail
  go_region_held3 (fun w' => w'.cell? ⟨p, 0, none⟩ = some (.int .u64 M1) ∧ w'.cell? ⟨p, 1, none⟩ = some (.int .u64 m1) ∧ w'.cell? ⟨p, 2, none⟩ = some (.int .u64 t1) ∧ w'.cell? ⟨p, 3, none⟩ = some (.string u1) ∧ w'.cell? ⟨p, 4, none⟩ = some (.string v1) ∧ w'.cell? ⟨p, 5, none⟩ = some (.string o1) ∧ w'.cell? ⟨q, 0, none⟩ = some (.int .u64 M2) ∧ w'.cell? ⟨q, 1, none⟩ = some (.int .u64 m2) ∧ w'.cell? ⟨q, 2, none⟩ = some (.int .u64 t2) ∧ w'.cell? ⟨q, 3, none⟩ = some (.string u2) ∧ w'.cell? ⟨q, 4, none⟩ = some (.string v2) ∧ w'.cell? ⟨q, 5, none⟩ = some (.string o2) ∧ Below w.heap.size w w') (first | exact keepVd hk | exact keepVd ‹_› | exact keepV hp hq ‹_› ‹_› | go_keep)
    (first | (go_at_call 132; (with_reducible refine (Major_any M1 m1 t1 u1 v1 o1 _).mono ?_); rintro e w11 ⟨rfl, hb11⟩) | (go_at_call 132; (with_reducible refine (Major_any M2 m2 t2 u2 v2 o2 _).mono ?_); rintro e w12 ⟨rfl, hb12⟩) | (go_at_call 131; (with_reducible refine (compareSegment_any M1 M2 _).mono ?_); rintro e w13 ⟨rfl, hb13⟩))
  go_wp2_with fail
  go_region_held3 (fun w' => w'.cell? ⟨p, 0, none⟩ = some (.int .u64 M1) ∧ w'.cell? ⟨p, 1, none⟩ = some (.int .u64 m1) ∧ w'.cell? ⟨p, 2, none⟩ = some (.int .u64 t1) ∧ w'.cell? ⟨p, 3, none⟩ = some (.string u1) ∧ w'.cell? ⟨p, 4, none⟩ = some (.string v1) ∧ w'.cell? ⟨p, 5, none⟩ = some (.string o1) ∧ w'.cell? ⟨q, 0, none⟩ = some (.int .u64 M2) ∧ w'.cell? ⟨q, 1, none⟩ = some (.int .u64 m2) ∧ w'.cell? ⟨q, 2, none⟩ = some (.int .u64 t2) ∧ w'.cell? ⟨q, 3, none⟩ = some (.string u2) ∧ w'.cell? ⟨q, 4, none⟩ = some (.string v2) ∧ w'.cell? ⟨q, 5, none⟩ = some (.string o2) ∧ Below w.heap.size w w') (first | exact keepVd hk | exact keepVd ‹_› | exact keepV hp hq ‹_› ‹_› | go_keep)
    (first | (go_at_call 133; (with_reducible refine (Minor_any M1 m1 t1 u1 v1 o1 _).mono ?_); rintro e w11 ⟨rfl, hb11⟩) | (go_at_call 133; (with_reducible refine (Minor_any M2 m2 t2 u2 v2 o2 _).mono ?_); rintro e w12 ⟨rfl, hb12⟩) | (go_at_call 131; (with_reducible refine (compareSegment_any m1 m2 _).mono ?_); rintro e w13 ⟨rfl, hb13⟩))
  go_wp2_with fail
  go_region_held3 (fun w' => w'.cell? ⟨p, 0, none⟩ = some (.int .u64 M1) ∧ w'.cell? ⟨p, 1, none⟩ = some (.int .u64 m1) ∧ w'.cell? ⟨p, 2, none⟩ = some (.int .u64 t1) ∧ w'.cell? ⟨p, 3, none⟩ = some (.string u1) ∧ w'.cell? ⟨p, 4, none⟩ = some (.string v1) ∧ w'.cell? ⟨p, 5, none⟩ = some (.string o1) ∧ w'.cell? ⟨q, 0, none⟩ = some (.int .u64 M2) ∧ w'.cell? ⟨q, 1, none⟩ = some (.int .u64 m2) ∧ w'.cell? ⟨q, 2, none⟩ = some (.int .u64 t2) ∧ w'.cell? ⟨q, 3, none⟩ = some (.string u2) ∧ w'.cell? ⟨q, 4, none⟩ = some (.string v2) ∧ w'.cell? ⟨q, 5, none⟩ = some (.string o2) ∧ Below w.heap.size w w') (first | exact keepVd hk | exact keepVd ‹_› | exact keepV hp hq ‹_› ‹_› | go_keep)
    (first | (go_at_call 134; (with_reducible refine (Patch_any M1 m1 t1 u1 v1 o1 _).mono ?_); rintro e w11 ⟨rfl, hb11⟩) | (go_at_call 134; (with_reducible refine (Patch_any M2 m2 t2 u2 v2 o2 _).mono ?_); rintro e w12 ⟨rfl, hb12⟩) | (go_at_call 131; (with_reducible refine (compareSegment_any t1 t2 _).mono ?_); rintro e w13 ⟨rfl, hb13⟩))
  go_wp2_with (first | (go_at_call 135; (with_reducible refine (Prerelease_any M2 m2 t2 u2 v2 o2 _).mono ?_); rintro e w14 ⟨rfl, hb14⟩))
  go_ret
  exact ⟨rfl, (kvB ‹_›).trans (hb14.mono (kvB ‹_›).size)⟩
set_option maxHeartbeats 4000000 in
theorem Compare_e1 (M1 m1 t1 : Int) (u1 v1 o1 : ByteArray) (M2 m2 t2 : Int) (u2 v2 o2 : ByteArray) (p q : Nat) (w : World) (hp : p < w.heap.size) (hq : q < w.heap.size) (hk : w.cell? ⟨p, 0, none⟩ = some (.int .u64 M1) ∧ w.cell? ⟨p, 1, none⟩ = some (.int .u64 m1) ∧ w.cell? ⟨p, 2, none⟩ = some (.int .u64 t1) ∧ w.cell? ⟨p, 3, none⟩ = some (.string u1) ∧ w.cell? ⟨p, 4, none⟩ = some (.string v1) ∧ w.cell? ⟨p, 5, none⟩ = some (.string o1) ∧ w.cell? ⟨q, 0, none⟩ = some (.int .u64 M2) ∧ w.cell? ⟨q, 1, none⟩ = some (.int .u64 m2) ∧ w.cell? ⟨q, 2, none⟩ = some (.int .u64 t2) ∧ w.cell? ⟨q, 3, none⟩ = some (.string u2) ∧ w.cell? ⟨q, 4, none⟩ = some (.string v2) ∧ w.cell? ⟨q, 5, none⟩ = some (.string o2) ∧ Below w.heap.size w w) (z0 : seg M1 M2 = 0) (z1 : seg m1 m2 = 0) (z2 : seg t1 t2 = 0) (h1 : u1.toList.isEmpty = true) (h2 : u2.toList.isEmpty = false) :
    Calls Tryd.prog 84 #[.pointer (some ⟨p, 0, none⟩), .pointer (some ⟨q, 0, none⟩)] w fun e w' => e = .returned (.int .i64 1) ∧ Below w.heap.size w w' := by
  go_enter Tryd.func84, Tryd.ntmps84
  go_wp2_with fail
  go_region_held3 (fun w' => w'.cell? ⟨p, 0, none⟩ = some (.int .u64 M1) ∧ w'.cell? ⟨p, 1, none⟩ = some (.int .u64 m1) ∧ w'.cell? ⟨p, 2, none⟩ = some (.int .u64 t1) ∧ w'.cell? ⟨p, 3, none⟩ = some (.string u1) ∧ w'.cell? ⟨p, 4, none⟩ = some (.string v1) ∧ w'.cell? ⟨p, 5, none⟩ = some (.string o1) ∧ w'.cell? ⟨q, 0, none⟩ = some (.int .u64 M2) ∧ w'.cell? ⟨q, 1, none⟩ = some (.int .u64 m2) ∧ w'.cell? ⟨q, 2, none⟩ = some (.int .u64 t2) ∧ w'.cell? ⟨q, 3, none⟩ = some (.string u2) ∧ w'.cell? ⟨q, 4, none⟩ = some (.string v2) ∧ w'.cell? ⟨q, 5, none⟩ = some (.string o2) ∧ Below w.heap.size w w') (first | exact keepVd hk | exact keepVd ‹_› | exact keepV hp hq ‹_› ‹_› | go_keep)
    (first | (go_at_call 132; (with_reducible refine (Major_any M1 m1 t1 u1 v1 o1 _).mono ?_); rintro e w11 ⟨rfl, hb11⟩) | (go_at_call 132; (with_reducible refine (Major_any M2 m2 t2 u2 v2 o2 _).mono ?_); rintro e w12 ⟨rfl, hb12⟩) | (go_at_call 131; (with_reducible refine (compareSegment_any M1 M2 _).mono ?_); rintro e w13 ⟨rfl, hb13⟩))
  go_wp2_with fail
  go_region_held3 (fun w' => w'.cell? ⟨p, 0, none⟩ = some (.int .u64 M1) ∧ w'.cell? ⟨p, 1, none⟩ = some (.int .u64 m1) ∧ w'.cell? ⟨p, 2, none⟩ = some (.int .u64 t1) ∧ w'.cell? ⟨p, 3, none⟩ = some (.string u1) ∧ w'.cell? ⟨p, 4, none⟩ = some (.string v1) ∧ w'.cell? ⟨p, 5, none⟩ = some (.string o1) ∧ w'.cell? ⟨q, 0, none⟩ = some (.int .u64 M2) ∧ w'.cell? ⟨q, 1, none⟩ = some (.int .u64 m2) ∧ w'.cell? ⟨q, 2, none⟩ = some (.int .u64 t2) ∧ w'.cell? ⟨q, 3, none⟩ = some (.string u2) ∧ w'.cell? ⟨q, 4, none⟩ = some (.string v2) ∧ w'.cell? ⟨q, 5, none⟩ = some (.string o2) ∧ Below w.heap.size w w') (first | exact keepVd hk | exact keepVd ‹_› | exact keepV hp hq ‹_› ‹_› | go_keep)
    (first | (go_at_call 133; (with_reducible refine (Minor_any M1 m1 t1 u1 v1 o1 _).mono ?_); rintro e w11 ⟨rfl, hb11⟩) | (go_at_call 133; (with_reducible refine (Minor_any M2 m2 t2 u2 v2 o2 _).mono ?_); rintro e w12 ⟨rfl, hb12⟩) | (go_at_call 131; (with_reducible refine (compareSegment_any m1 m2 _).mono ?_); rintro e w13 ⟨rfl, hb13⟩))
  go_wp2_with fail
  go_region_held3 (fun w' => w'.cell? ⟨p, 0, none⟩ = some (.int .u64 M1) ∧ w'.cell? ⟨p, 1, none⟩ = some (.int .u64 m1) ∧ w'.cell? ⟨p, 2, none⟩ = some (.int .u64 t1) ∧ w'.cell? ⟨p, 3, none⟩ = some (.string u1) ∧ w'.cell? ⟨p, 4, none⟩ = some (.string v1) ∧ w'.cell? ⟨p, 5, none⟩ = some (.string o1) ∧ w'.cell? ⟨q, 0, none⟩ = some (.int .u64 M2) ∧ w'.cell? ⟨q, 1, none⟩ = some (.int .u64 m2) ∧ w'.cell? ⟨q, 2, none⟩ = some (.int .u64 t2) ∧ w'.cell? ⟨q, 3, none⟩ = some (.string u2) ∧ w'.cell? ⟨q, 4, none⟩ = some (.string v2) ∧ w'.cell? ⟨q, 5, none⟩ = some (.string o2) ∧ Below w.heap.size w w') (first | exact keepVd hk | exact keepVd ‹_› | exact keepV hp hq ‹_› ‹_› | go_keep)
    (first | (go_at_call 134; (with_reducible refine (Patch_any M1 m1 t1 u1 v1 o1 _).mono ?_); rintro e w11 ⟨rfl, hb11⟩) | (go_at_call 134; (with_reducible refine (Patch_any M2 m2 t2 u2 v2 o2 _).mono ?_); rintro e w12 ⟨rfl, hb12⟩) | (go_at_call 131; (with_reducible refine (compareSegment_any t1 t2 _).mono ?_); rintro e w13 ⟨rfl, hb13⟩))
  go_wp2_with (first | (go_at_call 135; (with_reducible refine (Prerelease_any M2 m2 t2 u2 v2 o2 _).mono ?_); rintro e w14 ⟨rfl, hb14⟩))
  go_ret
  exact ⟨rfl, (kvB ‹_›).trans (hb14.mono (kvB ‹_›).size)⟩
set_option maxHeartbeats 4000000 in
theorem Compare_e2 (M1 m1 t1 : Int) (u1 v1 o1 : ByteArray) (M2 m2 t2 : Int) (u2 v2 o2 : ByteArray) (p q : Nat) (w : World) (hp : p < w.heap.size) (hq : q < w.heap.size) (hk : w.cell? ⟨p, 0, none⟩ = some (.int .u64 M1) ∧ w.cell? ⟨p, 1, none⟩ = some (.int .u64 m1) ∧ w.cell? ⟨p, 2, none⟩ = some (.int .u64 t1) ∧ w.cell? ⟨p, 3, none⟩ = some (.string u1) ∧ w.cell? ⟨p, 4, none⟩ = some (.string v1) ∧ w.cell? ⟨p, 5, none⟩ = some (.string o1) ∧ w.cell? ⟨q, 0, none⟩ = some (.int .u64 M2) ∧ w.cell? ⟨q, 1, none⟩ = some (.int .u64 m2) ∧ w.cell? ⟨q, 2, none⟩ = some (.int .u64 t2) ∧ w.cell? ⟨q, 3, none⟩ = some (.string u2) ∧ w.cell? ⟨q, 4, none⟩ = some (.string v2) ∧ w.cell? ⟨q, 5, none⟩ = some (.string o2) ∧ Below w.heap.size w w) (z0 : seg M1 M2 = 0) (z1 : seg m1 m2 = 0) (z2 : seg t1 t2 = 0) (h1 : u1.toList.isEmpty = false) (h2 : u2.toList.isEmpty = true) :
    Calls Tryd.prog 84 #[.pointer (some ⟨p, 0, none⟩), .pointer (some ⟨q, 0, none⟩)] w fun e w' => e = .returned (.int .i64 (-1)) ∧ Below w.heap.size w w' := by
  go_enter Tryd.func84, Tryd.ntmps84
  go_wp2_with fail
  go_region_held3 (fun w' => w'.cell? ⟨p, 0, none⟩ = some (.int .u64 M1) ∧ w'.cell? ⟨p, 1, none⟩ = some (.int .u64 m1) ∧ w'.cell? ⟨p, 2, none⟩ = some (.int .u64 t1) ∧ w'.cell? ⟨p, 3, none⟩ = some (.string u1) ∧ w'.cell? ⟨p, 4, none⟩ = some (.string v1) ∧ w'.cell? ⟨p, 5, none⟩ = some (.string o1) ∧ w'.cell? ⟨q, 0, none⟩ = some (.int .u64 M2) ∧ w'.cell? ⟨q, 1, none⟩ = some (.int .u64 m2) ∧ w'.cell? ⟨q, 2, none⟩ = some (.int .u64 t2) ∧ w'.cell? ⟨q, 3, none⟩ = some (.string u2) ∧ w'.cell? ⟨q, 4, none⟩ = some (.string v2) ∧ w'.cell? ⟨q, 5, none⟩ = some (.string o2) ∧ Below w.heap.size w w') (first | exact keepVd hk | exact keepVd ‹_› | exact keepV hp hq ‹_› ‹_› | go_keep)
    (first | (go_at_call 132; (with_reducible refine (Major_any M1 m1 t1 u1 v1 o1 _).mono ?_); rintro e w11 ⟨rfl, hb11⟩) | (go_at_call 132; (with_reducible refine (Major_any M2 m2 t2 u2 v2 o2 _).mono ?_); rintro e w12 ⟨rfl, hb12⟩) | (go_at_call 131; (with_reducible refine (compareSegment_any M1 M2 _).mono ?_); rintro e w13 ⟨rfl, hb13⟩))
  go_wp2_with fail
  go_region_held3 (fun w' => w'.cell? ⟨p, 0, none⟩ = some (.int .u64 M1) ∧ w'.cell? ⟨p, 1, none⟩ = some (.int .u64 m1) ∧ w'.cell? ⟨p, 2, none⟩ = some (.int .u64 t1) ∧ w'.cell? ⟨p, 3, none⟩ = some (.string u1) ∧ w'.cell? ⟨p, 4, none⟩ = some (.string v1) ∧ w'.cell? ⟨p, 5, none⟩ = some (.string o1) ∧ w'.cell? ⟨q, 0, none⟩ = some (.int .u64 M2) ∧ w'.cell? ⟨q, 1, none⟩ = some (.int .u64 m2) ∧ w'.cell? ⟨q, 2, none⟩ = some (.int .u64 t2) ∧ w'.cell? ⟨q, 3, none⟩ = some (.string u2) ∧ w'.cell? ⟨q, 4, none⟩ = some (.string v2) ∧ w'.cell? ⟨q, 5, none⟩ = some (.string o2) ∧ Below w.heap.size w w') (first | exact keepVd hk | exact keepVd ‹_› | exact keepV hp hq ‹_› ‹_› | go_keep)
    (first | (go_at_call 133; (with_reducible refine (Minor_any M1 m1 t1 u1 v1 o1 _).mono ?_); rintro e w11 ⟨rfl, hb11⟩) | (go_at_call 133; (with_reducible refine (Minor_any M2 m2 t2 u2 v2 o2 _).mono ?_); rintro e w12 ⟨rfl, hb12⟩) | (go_at_call 131; (with_reducible refine (compareSegment_any m1 m2 _).mono ?_); rintro e w13 ⟨rfl, hb13⟩))
  go_wp2_with fail
  go_region_held3 (fun w' => w'.cell? ⟨p, 0, none⟩ = some (.int .u64 M1) ∧ w'.cell? ⟨p, 1, none⟩ = some (.int .u64 m1) ∧ w'.cell? ⟨p, 2, none⟩ = some (.int .u64 t1) ∧ w'.cell? ⟨p, 3, none⟩ = some (.string u1) ∧ w'.cell? ⟨p, 4, none⟩ = some (.string v1) ∧ w'.cell? ⟨p, 5, none⟩ = some (.string o1) ∧ w'.cell? ⟨q, 0, none⟩ = some (.int .u64 M2) ∧ w'.cell? ⟨q, 1, none⟩ = some (.int .u64 m2) ∧ w'.cell? ⟨q, 2, none⟩ = some (.int .u64 t2) ∧ w'.cell? ⟨q, 3, none⟩ = some (.string u2) ∧ w'.cell? ⟨q, 4, none⟩ = some (.string v2) ∧ w'.cell? ⟨q, 5, none⟩ = some (.string o2) ∧ Below w.heap.size w w') (first | exact keepVd hk | exact keepVd ‹_› | exact keepV hp hq ‹_› ‹_› | go_keep)
    (first | (go_at_call 134; (with_reducible refine (Patch_any M1 m1 t1 u1 v1 o1 _).mono ?_); rintro e w11 ⟨rfl, hb11⟩) | (go_at_call 134; (with_reducible refine (Patch_any M2 m2 t2 u2 v2 o2 _).mono ?_); rintro e w12 ⟨rfl, hb12⟩) | (go_at_call 131; (with_reducible refine (compareSegment_any t1 t2 _).mono ?_); rintro e w13 ⟨rfl, hb13⟩))
  go_wp2_with (first | (go_at_call 135; (with_reducible refine (Prerelease_any M2 m2 t2 u2 v2 o2 _).mono ?_); rintro e w14 ⟨rfl, hb14⟩))
  go_ret
  exact ⟨rfl, (kvB ‹_›).trans (hb14.mono (kvB ‹_›).size)⟩
set_option maxHeartbeats 4000000 in
theorem Compare_e3 (M1 m1 t1 : Int) (u1 v1 o1 : ByteArray) (M2 m2 t2 : Int) (u2 v2 o2 : ByteArray) (p q : Nat) (w : World) (hp : p < w.heap.size) (hq : q < w.heap.size) (hk : w.cell? ⟨p, 0, none⟩ = some (.int .u64 M1) ∧ w.cell? ⟨p, 1, none⟩ = some (.int .u64 m1) ∧ w.cell? ⟨p, 2, none⟩ = some (.int .u64 t1) ∧ w.cell? ⟨p, 3, none⟩ = some (.string u1) ∧ w.cell? ⟨p, 4, none⟩ = some (.string v1) ∧ w.cell? ⟨p, 5, none⟩ = some (.string o1) ∧ w.cell? ⟨q, 0, none⟩ = some (.int .u64 M2) ∧ w.cell? ⟨q, 1, none⟩ = some (.int .u64 m2) ∧ w.cell? ⟨q, 2, none⟩ = some (.int .u64 t2) ∧ w.cell? ⟨q, 3, none⟩ = some (.string u2) ∧ w.cell? ⟨q, 4, none⟩ = some (.string v2) ∧ w.cell? ⟨q, 5, none⟩ = some (.string o2) ∧ Below w.heap.size w w) (k : Nat) (r : Int) (hG0 : Gl w) (hf : MA.semver_comparePrerelease.f k u1 u2 = some r) (z0 : seg M1 M2 = 0) (z1 : seg m1 m2 = 0) (z2 : seg t1 t2 = 0) (h1 : u1.toList.isEmpty = false) (h2 : u2.toList.isEmpty = false) :
    Calls Tryd.prog 84 #[.pointer (some ⟨p, 0, none⟩), .pointer (some ⟨q, 0, none⟩)] w fun e w' => e = .returned (.int .i64 r) ∧ Below w.heap.size w w' := by
  have HF := Lib.hid hf
  clear hf
  go_enter Tryd.func84, Tryd.ntmps84
  go_wp2_with fail
  go_region_held3 (fun w' => w'.cell? ⟨p, 0, none⟩ = some (.int .u64 M1) ∧ w'.cell? ⟨p, 1, none⟩ = some (.int .u64 m1) ∧ w'.cell? ⟨p, 2, none⟩ = some (.int .u64 t1) ∧ w'.cell? ⟨p, 3, none⟩ = some (.string u1) ∧ w'.cell? ⟨p, 4, none⟩ = some (.string v1) ∧ w'.cell? ⟨p, 5, none⟩ = some (.string o1) ∧ w'.cell? ⟨q, 0, none⟩ = some (.int .u64 M2) ∧ w'.cell? ⟨q, 1, none⟩ = some (.int .u64 m2) ∧ w'.cell? ⟨q, 2, none⟩ = some (.int .u64 t2) ∧ w'.cell? ⟨q, 3, none⟩ = some (.string u2) ∧ w'.cell? ⟨q, 4, none⟩ = some (.string v2) ∧ w'.cell? ⟨q, 5, none⟩ = some (.string o2) ∧ Below w.heap.size w w') (first | exact keepVd hk | exact keepVd ‹_› | exact keepV hp hq ‹_› ‹_› | go_keep)
    (first | (go_at_call 132; (with_reducible refine (Major_any M1 m1 t1 u1 v1 o1 _).mono ?_); rintro e w11 ⟨rfl, hb11⟩) | (go_at_call 132; (with_reducible refine (Major_any M2 m2 t2 u2 v2 o2 _).mono ?_); rintro e w12 ⟨rfl, hb12⟩) | (go_at_call 131; (with_reducible refine (compareSegment_any M1 M2 _).mono ?_); rintro e w13 ⟨rfl, hb13⟩))
  go_wp2_with fail
  go_region_held3 (fun w' => w'.cell? ⟨p, 0, none⟩ = some (.int .u64 M1) ∧ w'.cell? ⟨p, 1, none⟩ = some (.int .u64 m1) ∧ w'.cell? ⟨p, 2, none⟩ = some (.int .u64 t1) ∧ w'.cell? ⟨p, 3, none⟩ = some (.string u1) ∧ w'.cell? ⟨p, 4, none⟩ = some (.string v1) ∧ w'.cell? ⟨p, 5, none⟩ = some (.string o1) ∧ w'.cell? ⟨q, 0, none⟩ = some (.int .u64 M2) ∧ w'.cell? ⟨q, 1, none⟩ = some (.int .u64 m2) ∧ w'.cell? ⟨q, 2, none⟩ = some (.int .u64 t2) ∧ w'.cell? ⟨q, 3, none⟩ = some (.string u2) ∧ w'.cell? ⟨q, 4, none⟩ = some (.string v2) ∧ w'.cell? ⟨q, 5, none⟩ = some (.string o2) ∧ Below w.heap.size w w') (first | exact keepVd hk | exact keepVd ‹_› | exact keepV hp hq ‹_› ‹_› | go_keep)
    (first | (go_at_call 133; (with_reducible refine (Minor_any M1 m1 t1 u1 v1 o1 _).mono ?_); rintro e w11 ⟨rfl, hb11⟩) | (go_at_call 133; (with_reducible refine (Minor_any M2 m2 t2 u2 v2 o2 _).mono ?_); rintro e w12 ⟨rfl, hb12⟩) | (go_at_call 131; (with_reducible refine (compareSegment_any m1 m2 _).mono ?_); rintro e w13 ⟨rfl, hb13⟩))
  go_wp2_with fail
  go_region_held3 (fun w' => w'.cell? ⟨p, 0, none⟩ = some (.int .u64 M1) ∧ w'.cell? ⟨p, 1, none⟩ = some (.int .u64 m1) ∧ w'.cell? ⟨p, 2, none⟩ = some (.int .u64 t1) ∧ w'.cell? ⟨p, 3, none⟩ = some (.string u1) ∧ w'.cell? ⟨p, 4, none⟩ = some (.string v1) ∧ w'.cell? ⟨p, 5, none⟩ = some (.string o1) ∧ w'.cell? ⟨q, 0, none⟩ = some (.int .u64 M2) ∧ w'.cell? ⟨q, 1, none⟩ = some (.int .u64 m2) ∧ w'.cell? ⟨q, 2, none⟩ = some (.int .u64 t2) ∧ w'.cell? ⟨q, 3, none⟩ = some (.string u2) ∧ w'.cell? ⟨q, 4, none⟩ = some (.string v2) ∧ w'.cell? ⟨q, 5, none⟩ = some (.string o2) ∧ Below w.heap.size w w') (first | exact keepVd hk | exact keepVd ‹_› | exact keepV hp hq ‹_› ‹_› | go_keep)
    (first | (go_at_call 134; (with_reducible refine (Patch_any M1 m1 t1 u1 v1 o1 _).mono ?_); rintro e w11 ⟨rfl, hb11⟩) | (go_at_call 134; (with_reducible refine (Patch_any M2 m2 t2 u2 v2 o2 _).mono ?_); rintro e w12 ⟨rfl, hb12⟩) | (go_at_call 131; (with_reducible refine (compareSegment_any t1 t2 _).mono ?_); rintro e w13 ⟨rfl, hb13⟩))
  go_wp2_with (first | (go_at_call 135; (with_reducible refine (Prerelease_any M2 m2 t2 u2 v2 o2 _).mono ?_); rintro e w14 ⟨rfl, hb14⟩) | (go_at_call 128; (with_reducible refine (MA.semver_comparePrerelease.calls k u1 u2 r _ (hG0.below ((kvB ‹_›).trans (hb14.mono (kvB ‹_›).size))) HF.out).mono ?_); rintro e w15 ⟨rfl, hb15⟩))
  go_ret
  exact ⟨rfl, ((kvB ‹_›).trans (hb14.mono (kvB ‹_›).size)).trans (hb15.mono ((kvB ‹_›).trans (hb14.mono (kvB ‹_›).size)).size)⟩
end Go.Proofs.YtalpehfjjidfhaaDoor.Hand
