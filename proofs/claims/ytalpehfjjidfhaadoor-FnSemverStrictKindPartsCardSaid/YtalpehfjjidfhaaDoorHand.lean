/- What is proved: by hand, the functions of package semver that read package variables through strconv.ParseUint, as plain functions of their arguments. -/
import Derived.Test.YtalpehfjjidfhaaDoorShelf
import Derived.Test.YtalpehfjjidfhaaDoorSv
import Derived.Lib.SmallJoins
import Derived.WalkKit
import Derived.ProofKit
import Derived.OpenShut
import Derived.ShutString
import Derived.Below
import Derived.SizedLaws
import Derived.WalkSpells
import Derived.WalkLawsBesides
import Derived.Lib.Hide
import Derived.BigQuiet
import Derived.Deep.QuietTactic
namespace Go.Proofs.YtalpehfjjidfhaaDoor.Hand
set_option linter.unusedVariables false
open Go.RowKit Sv
/-- The two error variables that strconv.ParseUint reads hold something. -/
def Gl (w : World) : Prop := ∃ ev er : Value, w.cell? ⟨9, 0, none⟩ = some ev ∧ (ev = .nilIface ∨ ∃ te pe, ev = .iface te pe) ∧ w.cell? ⟨10, 0, none⟩ = some er ∧ (er = .nilIface ∨ ∃ te pe, er = .iface te pe) ∧ 11 ≤ w.heap.size
theorem Gl.below {w w' : World} (h : Gl w) (hb : Below w.heap.size w w') : Gl w' := by
  obtain ⟨ev, er, h1, h2, h3, h4, h5⟩ := h
  refine ⟨ev, er, ?_, h2, ?_, h4, Nat.le_trans h5 hb.size⟩
  · rw [hb.cell (p := ⟨9, 0, none⟩) (show 9 < _ by omega)]; exact h1
  · rw [hb.cell (p := ⟨10, 0, none⟩) (show 10 < _ by omega)]; exact h3

/-- What strconv.ParseUint(s, 10, 64) answers: a number without an error, or an error. -/
theorem ParseUint_64 (s : ByteArray) (hs : s.size ≤ 281474976710656) (w : World) (hG0 : Gl w) :
    Calls Tryd.prog 141 #[.string s, .int .i64 10, .int .i64 64] w fun e w' => (∃ n : Int, ∃ ev : Value, e = .returned (.tuple #[.int .u64 n, ev]) ∧ ((∃ u : Nat, num? s.data.toList = some u ∧ n = u ∧ ev = .nilIface) ∨ (num? s.data.toList = none ∧ ∃ p, ev = .iface 173 p))) ∧ Below w.heap.size w w' := by
  obtain ⟨ev, er, h1, h2, h3, h4, h5⟩ := hG0
  cases h : Lib.parseUintB 64 s.data.toList
  case ok u =>
    refine (Tryd.strconv_ParseUint_10_at64_ok s (by omega) u h w).mono ?_
    rintro e w' ⟨rfl, hw⟩
    refine ⟨⟨u, .nilIface, rfl, Or.inl ⟨u, by unfold num?; rw [h], rfl, rfl⟩⟩, ?_⟩
    rcases hw with rfl | rfl
    · exact Below.refl _ _
    · exact Go.Joins.below_bytesWorld _ _ _ _ (Nat.le_refl _)
  case range =>
    refine (Tryd.strconv_ParseUint_10_at64_range s hs h er w h3 h4).mono ?_
    rintro e w' ⟨N, rfl, _, _, hb⟩
    exact ⟨⟨_, _, rfl, Or.inr ⟨by unfold num?; rw [h], _, rfl⟩⟩, hb⟩
  · refine (Tryd.strconv_ParseUint_10_at64_syntax s hs h ev w h1 h2).mono ?_
    rintro e w' ⟨N, rfl, _, _, hb⟩
    exact ⟨⟨0, _, rfl, Or.inr ⟨by unfold num?; rw [h], _, rfl⟩⟩, hb⟩
theorem ParseUint_some (s : ByteArray) (hs : s.size ≤ 281474976710656) (u : Nat) (hu : num? s.toList = some u) (w : World) (hG0 : Gl w) :
    Calls Tryd.prog 141 #[.string s, .int .i64 10, .int .i64 64] w fun e w' => e = .returned (.tuple #[.int .u64 u, .nilIface]) ∧ Below w.heap.size w w' := by
  rw [ByteArray.toList_eq] at hu
  refine (ParseUint_64 s hs w hG0).mono ?_
  rintro e w' ⟨⟨n, ev, rfl, ⟨v, hv, rfl, rfl⟩ | ⟨hv, _⟩⟩, hb⟩
  · rw [hu] at hv; injection hv with hv; subst hv; exact ⟨rfl, hb⟩
  · rw [hu] at hv; cases hv
theorem ParseUint_none (s : ByteArray) (hs : s.size ≤ 281474976710656) (hu : num? s.toList = none) (w : World) (hG0 : Gl w) :
    Calls Tryd.prog 141 #[.string s, .int .i64 10, .int .i64 64] w fun e w' => (∃ n p, e = .returned (.tuple #[.int .u64 n, .iface 173 p])) ∧ Below w.heap.size w w' := by
  rw [ByteArray.toList_eq] at hu
  refine (ParseUint_64 s hs w hG0).mono ?_
  rintro e w' ⟨⟨n, ev, rfl, ⟨v, hv, rfl, rfl⟩ | ⟨hv, p, rfl⟩⟩, hb⟩
  · rw [hu] at hv; cases hv
  · exact ⟨⟨n, p, rfl⟩, hb⟩

def comparePrePart.f (a0 a1 : ByteArray) : Option Int := if a0.size ≤ 281474976710656 ∧ a1.size ≤ 281474976710656 then some (cmpPart a0.data.toList a1.data.toList) else none
set_option maxHeartbeats 2000000 in
theorem comparePrePart.calls (a0 a1 : ByteArray) (r : Int) (w : World) (hG0 : Gl w) (h : comparePrePart.f a0 a1 = some r) :
    Calls Tryd.prog 162 #[.string a0, .string a1] w fun e w' => e = .returned (.int .i64 r) ∧ Below w.heap.size w w' := by
  unfold comparePrePart.f at h
  by_cases hsz : a0.size ≤ 281474976710656 ∧ a1.size ≤ 281474976710656
  case neg => rw [if_neg hsz] at h; cases h
  rw [if_pos hsz] at h
  obtain ⟨hs0, hs1⟩ := hsz
  injection h with h
  have R := Lib.hid h
  clear h
  rw [← ByteArray.toList_eq, ← ByteArray.toList_eq] at R
  go_enter Tryd.func162, Tryd.ntmps162
  by_cases e1 : a0.toList = a1.toList
  · have b1 : (a0.toList == a1.toList) = true := by simp [e1]
    have hr : r = 0 := by rw [← R.out]; unfold cmpPart; rw [if_pos e1]
    clear e1
    go_wp2_with fail
    go_ret
    exact ⟨by subst hr; rfl, Below.refl _ _⟩
  have b1 : (a0.toList == a1.toList) = false := by simp [e1]
  by_cases e2 : a0.toList = []
  · have e3 : ¬ a1.toList = [] := fun h => e1 (e2.trans h.symm)
    have hr : r = -1 := by rw [← R.out]; unfold cmpPart; rw [if_neg e1, if_pos e2]
    have b2 : a0.toList.isEmpty = true := by simp [e2]
    have b3 : a1.toList.isEmpty = false := by simp [e3]
    clear e1
    go_wp2_with fail
    go_ret
    exact ⟨by subst hr; rfl, Below.refl _ _⟩
  by_cases e3 : a1.toList = []
  · have hr : r = 1 := by rw [← R.out]; unfold cmpPart; rw [if_neg e1, if_neg e2, if_pos e3]
    have b2 : a0.toList.isEmpty = false := by simp [e2]
    have b3 : a1.toList.isEmpty = true := by simp [e3]
    clear e1
    go_wp2_with fail
    go_ret
    exact ⟨by subst hr; rfl, Below.refl _ _⟩
  have b2 : a0.toList.isEmpty = false := by simp [e2]
  have b3 : a1.toList.isEmpty = false := by simp [e3]
  have fin : ∀ x : Option Nat, ∀ y : Option Nat, num? a1.toList = x → num? a0.toList = y → ∀ q : Int, (match x, y with
    | none, none => q = if Op.bytesLess a0.toList a1.toList then -1 else 1
    | none, some _ => q = -1
    | some _, none => q = 1
    | some oi, some si => q = if oi < si then 1 else -1) → q = r := by
    intro x y hx hy q hq
    rw [← R.out]; unfold cmpPart; rw [if_neg e1, if_neg e2, if_neg e3, hx, hy]
    cases x <;> cases y <;> exact hq
  clear R e1
  cases hx : num? a1.toList with
  | none =>
    have U1 := Lib.hid hx
    cases hy : num? a0.toList with
    | none =>
      have U0 := Lib.hid hy
      have F := fin _ _ hx hy
      clear fin
      have b4 : (a0.toList == a1.toList) = false := b1
      by_cases hl : Op.bytesLess a0.toList a1.toList = true
      · have hr : r = -1 := (F _ (by simp only [hl]; rfl)).symm
        clear F hx hy
        go_wp2_with (first | (go_at_call 141; (with_reducible refine (ParseUint_none a1 hs1 U1.out _ hG0).mono ?_); rintro e w1 ⟨⟨n1, p1, rfl⟩, hb1⟩) | (go_at_call 141; (with_reducible refine (ParseUint_none a0 hs0 U0.out _ (hG0.below hb1)).mono ?_); rintro e w2 ⟨⟨n0, p0, rfl⟩, hb2⟩))
        go_ret
        exact ⟨by rw [hr]; rfl, hb1.trans (hb2.mono hb1.size)⟩
      · have hl := Bool.eq_false_iff.2 hl
        have hr : r = 1 := (F _ (by simp only [hl]; rfl)).symm
        clear F hx hy
        go_wp2_with (first | (go_at_call 141; (with_reducible refine (ParseUint_none a1 hs1 U1.out _ hG0).mono ?_); rintro e w1 ⟨⟨n1, p1, rfl⟩, hb1⟩) | (go_at_call 141; (with_reducible refine (ParseUint_none a0 hs0 U0.out _ (hG0.below hb1)).mono ?_); rintro e w2 ⟨⟨n0, p0, rfl⟩, hb2⟩))
        go_ret
        exact ⟨by rw [hr]; rfl, hb1.trans (hb2.mono hb1.size)⟩
    | some u0 =>
      have U0 := Lib.hid hy
      have hr : r = -1 := (fin _ _ hx hy _ rfl).symm
      clear fin hx hy
      go_wp2_with (first | (go_at_call 141; (with_reducible refine (ParseUint_none a1 hs1 U1.out _ hG0).mono ?_); rintro e w1 ⟨⟨n1, p1, rfl⟩, hb1⟩) | (go_at_call 141; (with_reducible refine (ParseUint_some a0 hs0 _ U0.out _ (hG0.below hb1)).mono ?_); rintro e w2 ⟨rfl, hb2⟩))
      go_ret
      exact ⟨by rw [hr]; rfl, hb1.trans (hb2.mono hb1.size)⟩
  | some u1 =>
    have U1 := Lib.hid hx
    cases hy : num? a0.toList with
    | none =>
      have U0 := Lib.hid hy
      have hr : r = 1 := (fin _ _ hx hy _ rfl).symm
      clear fin hx hy
      go_wp2_with (first | (go_at_call 141; (with_reducible refine (ParseUint_some a1 hs1 _ U1.out _ hG0).mono ?_); rintro e w1 ⟨rfl, hb1⟩) | (go_at_call 141; (with_reducible refine (ParseUint_none a0 hs0 U0.out _ (hG0.below hb1)).mono ?_); rintro e w2 ⟨⟨n0, p0, rfl⟩, hb2⟩))
      go_ret
      exact ⟨by rw [hr]; rfl, hb1.trans (hb2.mono hb1.size)⟩
    | some u0 =>
      have U0 := Lib.hid hy
      have F := fin _ _ hx hy _ rfl
      clear fin hx hy
      by_cases hl : u1 < u0
      · have hr : r = 1 := by rw [← F, if_pos hl]
        clear F
        go_wp2_with (first | (go_at_call 141; (with_reducible refine (ParseUint_some a1 hs1 _ U1.out _ hG0).mono ?_); rintro e w1 ⟨rfl, hb1⟩) | (go_at_call 141; (with_reducible refine (ParseUint_some a0 hs0 _ U0.out _ (hG0.below hb1)).mono ?_); rintro e w2 ⟨rfl, hb2⟩))
        go_ret
        exact ⟨by rw [hr]; rfl, hb1.trans (hb2.mono hb1.size)⟩
      · have hr : r = -1 := by rw [← F, if_neg hl]
        clear F
        go_wp2_with (first | (go_at_call 141; (with_reducible refine (ParseUint_some a1 hs1 _ U1.out _ hG0).mono ?_); rintro e w1 ⟨rfl, hb1⟩) | (go_at_call 141; (with_reducible refine (ParseUint_some a0 hs0 _ U0.out _ (hG0.below hb1)).mono ?_); rintro e w2 ⟨rfl, hb2⟩))
        go_ret
        exact ⟨by rw [hr]; rfl, hb1.trans (hb2.mono hb1.size)⟩
end Go.Proofs.YtalpehfjjidfhaaDoor.Hand
