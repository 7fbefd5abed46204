/- The plain law of FnSemverStrictReads: the package's reading of a version's text is the grammar's. No program in sight. -/
import Derived.Test.YtalpehfjjidfhaaDoorOrd
namespace Go.Proofs.YtalpehfjjidfhaaDoor.Sv
open Go Hand MA
set_option linter.unusedVariables false
/-- A text parted at the first of a byte. -/
def cut (c : UInt8) : List UInt8 → Option (List UInt8 × List UInt8)
  | [] => none
  | x :: r => if x = c then some ([], r) else (cut c r).map fun p => (x :: p.1, p.2)
theorem cut_none {c : UInt8} {l : List UInt8} : cut c l = none ↔ c ∉ l := by
  induction l with
  | nil => simp [cut]
  | cons x r ih =>
    unfold cut
    by_cases h : x = c
    · subst h; simp
    · rw [if_neg h]
      have h' : ¬ c = x := fun e => h e.symm
      simp [ih, h']
theorem cut_app {c : UInt8} {a : List UInt8} (b : List UInt8) (h : c ∉ a) : cut c (a ++ c :: b) = some (a, b) := by
  induction a with
  | nil => simp [cut]
  | cons x r ih =>
    have hx : x ≠ c := fun e => h (by simp [e])
    have hr : c ∉ r := fun e => h (by simp [e])
    rw [List.cons_append, cut, if_neg hx, ih hr]; rfl
theorem cut_pre {c : UInt8} {a : List UInt8} (b : List UInt8) (h : c ∉ a) : cut c (a ++ b) = (cut c b).map fun p => (a ++ p.1, p.2) := by
  induction a with
  | nil => simp
  | cons x r ih =>
    have hx : x ≠ c := fun e => h (by simp [e])
    have hr : c ∉ r := fun e => h (by simp [e])
    rw [List.cons_append, cut, if_neg hx, ih hr]
    cases cut c b <;> rfl
theorem cut_some {c : UInt8} {l a b : List UInt8} (h : cut c l = some (a, b)) : l = a ++ c :: b ∧ c ∉ a := by
  induction l generalizing a with
  | nil => cases h
  | cons x r ih =>
    unfold cut at h
    by_cases e : x = c
    · rw [if_pos e] at h
      injection h with h
      injection h with h1 h2
      subst h1 h2 e
      simp
    · rw [if_neg e] at h
      cases q : cut c r with
      | none => rw [q] at h; cases h
      | some p =>
        rw [q] at h
        injection h with h
        injection h with h1 h2
        subst h1 h2
        obtain ⟨i1, i2⟩ := ih (a := p.1) q
        have e' : ¬ c = x := fun e'' => e e''.symm
        exact ⟨by rw [List.cons_append, ← i1], by simp [e', i2]⟩
/-- What stands ahead of the first of a byte, and what behind it. -/
def core (c : UInt8) (l : List UInt8) : List UInt8 := match cut c l with | some p => p.1 | none => l
def tail (c : UInt8) (l : List UInt8) : List UInt8 := match cut c l with | some p => p.2 | none => []
def has (c : UInt8) (l : List UInt8) : Bool := (cut c l).isSome
theorem core_pre {c : UInt8} (l : List UInt8) : core c l <+: l := by
  unfold core
  cases h : cut c l with
  | none => exact List.prefix_refl _
  | some p => exact ⟨c :: p.2, (cut_some (a := p.1) h).1.symm⟩
theorem core_not {c : UInt8} (l : List UInt8) : c ∉ core c l := by
  unfold core
  cases h : cut c l with
  | none => exact cut_none.1 h
  | some p => exact (cut_some (a := p.1) h).2
theorem core_app {c : UInt8} {a : List UInt8} (b : List UInt8) (h : c ∉ a) : core c (a ++ b) = a ++ core c b ∧ tail c (a ++ b) = tail c b ∧ has c (a ++ b) = has c b := by
  unfold core tail has
  rw [cut_pre b h]
  cases cut c b <;> exact ⟨rfl, rfl, rfl⟩
def validM (l : List UInt8) : Bool := (splitD l).all identL
def validP (l : List UInt8) : Bool := (splitD l).all okPre
/-- One of the three numbers. -/
def numB (l : List UInt8) : Option Nat := if l.all dig = true ∧ plain l = true then num? l else none
/-- The parts of a version. -/
structure Parts where mk ::
  (M : Nat) (m : Nat) (t : Nat) (u : List UInt8) (v : List UInt8)
def parts3 (a b c u v : List UInt8) : Option Parts := match numB a, numB b, numB c with
  | some x, some y, some z => some ⟨x, y, z, u, v⟩
  | _, _, _ => none
/-- The package: the two first dots part the text. -/
def codeV (l : List UInt8) : Option Parts :=
  match cut 46 l with
  | none => none
  | some (p0, r) => match cut 46 r with
    | none => none
    | some (p1, p2) =>
      if has 43 p2 = true ∧ validM (tail 43 p2) = false then none
      else if has 45 (core 43 p2) = true ∧ validP (tail 45 (core 43 p2)) = false then none
      else parts3 p0 p1 (core 45 (core 43 p2)) (tail 45 (core 43 p2)) (tail 43 p2)
/-- The grammar: the tails are taken off first. -/
def specV (l : List UInt8) : Option Parts :=
  if has 43 l = true ∧ validM (tail 43 l) = false then none
  else if has 45 (core 43 l) = true ∧ validP (tail 45 (core 43 l)) = false then none
  else match splitD (core 45 (core 43 l)) with
    | [a, b, c] => parts3 a b c (tail 45 (core 43 l)) (tail 43 l)
    | _ => none
theorem dig_not {c : UInt8} {l : List UInt8} (h : l.all dig = true) (hc : dig c = false) : c ∉ l := by
  intro hm
  have := List.all_eq_true.1 h c hm
  rw [hc] at this; cases this
theorem numB_dig {c : UInt8} {l : List UInt8} (hc : dig c = false) (hm : c ∈ l) : numB l = none := by
  unfold numB
  exact if_neg fun h => dig_not h.1 hc hm
theorem split_len (l : List UInt8) : (splitD l).length = l.count 46 + 1 := by
  induction l with
  | nil => rfl
  | cons c r ih =>
    rw [splitD_cons]
    by_cases h : c = 46
    · subst h; rw [if_pos rfl]; simp [ih]
    · rw [if_neg h]
      have : (conS c (splitD r)).length = (splitD r).length := by
        cases e : splitD r with
        | nil => exact absurd e (splitD_ne r)
        | cons _ _ => rfl
      rw [this, ih, List.count_cons_of_ne (by simpa using h)]
theorem three {α : Type} {f : List UInt8 → List UInt8 → List UInt8 → Option α} {l : List (List UInt8)} (h : l.length ≠ 3) : (match l with | [a, b, c] => f a b c | _ => none) = none := by
  match l, h with
  | [], _ => rfl
  | [_], _ => rfl
  | [_, _], _ => rfl
  | [_, _, _], h => exact absurd rfl h
  | _ :: _ :: _ :: _ :: _, _ => rfl
theorem count_pre {a b : List UInt8} (h : a <+: b) : a.count 46 ≤ b.count 46 := h.sublist.count_le 46
theorem spec_none {l : List UInt8} (h : (splitD (core 45 (core 43 l))).length ≠ 3) : specV l = none := by
  unfold specV
  split
  · rfl
  split
  · rfl
  exact three h
theorem code_spec (l : List UInt8) : codeV l = specV l := by
  have hp : core 45 (core 43 l) <+: l := (core_pre _).trans (core_pre _)
  unfold codeV
  cases h0 : cut 46 l with
  | none =>
    have hn := cut_none.1 h0
    have : l.count 46 = 0 := List.count_eq_zero.2 hn
    have := count_pre hp
    exact (spec_none (by rw [split_len]; omega)).symm
  | some q =>
    obtain ⟨p0, r⟩ := q
    obtain ⟨e0, n0⟩ := cut_some h0
    have c0 : p0.count 46 = 0 := List.count_eq_zero.2 n0
    show (match cut 46 r with | none => none | some (p1, p2) => _) = specV l
    cases h1 : cut 46 r with
    | none =>
      have hn := cut_none.1 h1
      have c1 : r.count 46 = 0 := List.count_eq_zero.2 hn
      have c2 : l.count 46 = 1 := by rw [e0]; simp [c0, c1]
      have := count_pre hp
      exact (spec_none (by rw [split_len]; omega)).symm
    | some q =>
      obtain ⟨p1, p2⟩ := q
      obtain ⟨e1, n1⟩ := cut_some h1
      have c1 : p1.count 46 = 0 := List.count_eq_zero.2 n1
      simp only
      have el : l = (p0 ++ 46 :: p1) ++ 46 :: p2 := by rw [e0, e1]; simp
      have d43 : dig 43 = false := by decide
      have d45 : dig 45 = false := by decide
      have d46 : dig 46 = false := by decide
      by_cases hb : (43 : UInt8) ∈ p0 ++ 46 :: p1 ∨ (45 : UInt8) ∈ p0 ++ 46 :: p1
      · -- a sign too early: neither reads it
        have r1 : specV l = none := by
          refine spec_none ?_
          rw [split_len]
          have hu : p0 ++ 46 :: p1 <+: l := ⟨46 :: p2, by rw [el]⟩
          have : core 45 (core 43 l) <+: p0 ++ 46 :: p1 := by
            rcases List.prefix_or_prefix_of_prefix hp hu with h | h
            · exact h
            · exfalso
              rcases hb with hb | hb
              · exact core_not (c := 43) l ((core_pre _).subset (h.subset hb))
              · exact core_not (c := 45) (core 43 l) (h.subset hb)
          have h3 := count_pre this
          have h4 : (p0 ++ 46 :: p1).count 46 = 1 := by simp [c0, c1]
          omega
        have r2 : ∀ x u v, parts3 p0 p1 x u v = none := by
          intro x u v
          unfold parts3
          rcases hb with hb | hb <;> simp only [List.mem_append, List.mem_cons] at hb <;> rcases hb with hb | hb | hb
          · rw [numB_dig d43 hb]
          · exact absurd hb (by decide)
          · rw [numB_dig d43 hb]; cases numB p0 <;> rfl
          · rw [numB_dig d45 hb]
          · exact absurd hb (by decide)
          · rw [numB_dig d45 hb]; cases numB p0 <;> rfl
        rw [r1, r2]
        split
        · rfl
        split
        · rfl
        · rfl
      · have n43 : (43 : UInt8) ∉ p0 ++ 46 :: p1 ++ [46] := by
          intro h; rw [List.mem_append] at h
          rcases h with h | h
          · exact hb (Or.inl h)
          · revert h; decide
        have n45 : (45 : UInt8) ∉ p0 ++ 46 :: p1 ++ [46] := by
          intro h; rw [List.mem_append] at h
          rcases h with h | h
          · exact hb (Or.inr h)
          · revert h; decide
        have el' : l = (p0 ++ 46 :: p1 ++ [46]) ++ p2 := by rw [el]; simp
        obtain ⟨k1, k2, k3⟩ := core_app (c := 43) p2 n43
        obtain ⟨k4, k5, k6⟩ := core_app (c := 45) (core 43 p2) n45
        unfold specV
        rw [el', k1, k2, k3, k4, k5, k6]
        split
        · rfl
        split
        · rfl
        generalize core 45 (core 43 p2) = n2
        have es : splitD (p0 ++ 46 :: p1 ++ [46] ++ n2) = p0 :: p1 :: splitD n2 := by
          rw [show p0 ++ 46 :: p1 ++ [46] ++ n2 = p0 ++ 46 :: (p1 ++ 46 :: n2) by simp, splitD_at n0, splitD_at n1]
        rw [es]
        by_cases h46 : (46 : UInt8) ∈ n2
        · have e1 : parts3 p0 p1 n2 (tail 45 (core 43 p2)) (tail 43 p2) = none := by
            unfold parts3
            rw [numB_dig d46 h46]
            cases numB p0 <;> cases numB p1 <;> rfl
          rw [e1]
          have hl := split_len n2
          have hc : 0 < n2.count 46 := List.count_pos_iff.2 h46
          exact (three (f := fun a b c => parts3 a b c _ _) (by simp; omega)).symm
        · rw [splitD_none h46]
end Go.Proofs.YtalpehfjjidfhaaDoor.Sv
