/- What is proved: the two strict readings of a version's text are one plain function. -/
import Derived.Test.YtalpehfjjidfhaaDoorHandU
namespace Go.Proofs.YtalpehfjjidfhaaDoor.MS
open Go Go.RowKit Sv Hand
open Go.Proofs.YtalpehfjjidfhaaDoorW.PrintWords
open Go.Proofs.YtalpehfjjidfhaaDoor.MA (tl identB identL digsL okPre validPre)
set_option linter.unusedVariables false
set_option linter.unusedSimpArgs false
def toP : RR → Option Parts
  | .ok P => some P
  | .er _ => none
theorem strictV_toP (R : RR) : strictV R = specVal (toP R) := by cases R <;> rfl
theorem plain_zero (l : List UInt8) : plain l = !zeroL l := by
  unfold plain zeroL
  rw [Bool.eq_iff_iff]
  simp
theorem segK_zero (l : List UInt8) : segK l = 0 ↔ l.all dig = true ∧ plain l = true := by
  unfold segK
  rw [plain_zero]
  cases l.all dig <;> cases zeroL l <;> simp
theorem numB_seg (l : List UInt8) : numB l = if segK l = 0 then (if (numR l).2 = 0 then some (numR l).1 else none) else none := by
  unfold numB
  by_cases h : l.all dig = true ∧ plain l = true
  · rw [if_pos h, if_pos ((segK_zero l).2 h)]
    unfold num? numR
    cases Lib.parseUintB 64 l <;> rfl
  · rw [if_neg h, if_neg (fun h' => h ((segK_zero l).1 h'))]
theorem segs_toP (a b c u v : List UInt8) : toP (segsR a b c u v) = parts3 a b c u v ∧ ErOk (segsR a b c u v) := by
  unfold segsR numsR parts3
  rw [numB_seg a, numB_seg b, numB_seg c]
  by_cases h0 : segK a = 0
  · by_cases h1 : segK b = 0
    · by_cases h2 : segK c = 0
      · simp only [h0, h1, h2, ne_eq, not_true_eq_false, if_false, if_true]
        by_cases g0 : (numR a).2 = 0
        · by_cases g1 : (numR b).2 = 0
          · by_cases g2 : (numR c).2 = 0
            · simp only [g0, g1, g2, not_true_eq_false, if_false, if_true]; exact ⟨rfl, trivial⟩
            · simp only [g0, g1, g2, not_true_eq_false, not_false_eq_true, if_false, if_true]; exact ⟨rfl, g2⟩
          · simp only [g0, g1, not_true_eq_false, not_false_eq_true, if_false, if_true]; exact ⟨rfl, g1⟩
        · simp only [g0, not_false_eq_true, if_false, if_true]; exact ⟨rfl, g0⟩
      · simp only [h0, h1, h2, ne_eq, not_true_eq_false, not_false_eq_true, if_false, if_true]
        refine ⟨?_, h2⟩
        show none = _
        split <;> simp_all
    · simp only [h0, h1, ne_eq, not_true_eq_false, not_false_eq_true, if_false, if_true]
      refine ⟨?_, h1⟩
      show none = _
      split <;> simp_all
  · simp only [h0, ne_eq, not_false_eq_true, if_true, if_false]
    exact ⟨rfl, h0⟩
theorem firstK_zero (f : ByteArray → Nat) (l : List ByteArray) : firstK f l = 0 ↔ ∀ x ∈ l, f x = 0 := by
  induction l with
  | nil => simp [firstK]
  | cons x r ih =>
    unfold firstK
    by_cases h : f x = 0
    · rw [if_pos h, ih]; simp [h]
    · rw [if_neg h]; simp [h]
theorem metaK_zero (y : List UInt8) : metaK (B y) = 0 ↔ identL y = true := by
  unfold metaK identL
  rw [tl_B]
  cases y.isEmpty <;> cases y.all identB <;> simp
theorem meta_zero (l : List UInt8) : firstK metaK (bs (splitD l)) = 0 ↔ validM l = true := by
  rw [firstK_zero]
  unfold validM
  rw [List.all_eq_true]
  constructor
  · intro h x hx
    exact (metaK_zero x).1 (h (B x) (by unfold bs; exact List.mem_map_of_mem hx))
  · intro h x hx
    unfold bs at hx
    obtain ⟨y, hy, rfl⟩ := List.mem_map.1 hx
    exact (metaK_zero y).2 (h y hy)
theorem dig_ident (y : List UInt8) (h : y.all dig = true) : y.all identB = true := by
  rw [List.all_eq_true] at h ⊢
  intro x hx
  unfold identB
  rw [h x hx]
  rfl
theorem preK_zero (y : List UInt8) : preK (B y) = 0 ↔ okPre y = true := by
  have hd := dig_ident y
  unfold preK okPre identL digsL
  rw [plain_zero]
  rw [tl_B]
  have hz : zeroL y = (decide (1 < y.length) && decide (y.head? = some 48)) := rfl
  cases h1 : y.isEmpty <;> cases h2 : y.all dig <;> cases h3 : y.all identB <;> cases h4 : zeroL y <;> simp_all
theorem pre_zero (l : List UInt8) : firstK preK (bs (splitD l)) = 0 ↔ validP l = true := by
  rw [firstK_zero]
  unfold validP
  rw [List.all_eq_true]
  constructor
  · intro h x hx
    exact (preK_zero x).1 (h (B x) (by unfold bs; exact List.mem_map_of_mem hx))
  · intro h x hx
    unfold bs at hx
    obtain ⟨y, hy, rfl⟩ := List.mem_map.1 hx
    exact (preK_zero y).2 (h y hy)
/-- What both readings give. -/
def readV (l : List UInt8) : Option Parts := if l.length ≤ 256 then specV l else none
theorem metaR_toP (p q s : List UInt8) : toP (metaR p q s) = (if has 43 s = true ∧ validM (tail 43 s) = false then none
      else if has 45 (core 43 s) = true ∧ validP (tail 45 (core 43 s)) = false then none
      else parts3 p q (core 45 (core 43 s)) (tail 45 (core 43 s)) (tail 43 s)) ∧ ErOk (metaR p q s) := by
  have e1 : (firstK metaK (bs (splitD (tail 43 s))) ≠ 0) ↔ validM (tail 43 s) = false := by
    rw [← Bool.not_eq_true, ← meta_zero]
  have e2 : (firstK preK (bs (splitD (tail 45 (core 43 s)))) ≠ 0) ↔ validP (tail 45 (core 43 s)) = false := by
    rw [← Bool.not_eq_true, ← pre_zero]
  unfold metaR
  by_cases h1 : has 43 s = true ∧ validM (tail 43 s) = false
  · rw [if_pos h1, if_pos ⟨h1.1, e1.2 h1.2⟩]
    exact ⟨rfl, e1.2 h1.2⟩
  · rw [if_neg h1, if_neg (fun h => h1 ⟨h.1, e1.1 h.2⟩)]
    unfold preR
    by_cases h2 : has 45 (core 43 s) = true ∧ validP (tail 45 (core 43 s)) = false
    · rw [if_pos h2, if_pos ⟨h2.1, e2.2 h2.2⟩]
      exact ⟨rfl, e2.2 h2.2⟩
    · rw [if_neg h2, if_neg (fun h => h2 ⟨h.1, e2.1 h.2⟩)]
      exact segs_toP _ _ _ _ _
theorem strict_toP (l : List UInt8) : toP (strictR l) = readV l ∧ ErOk (strictR l) := by
  unfold strictR readV
  by_cases h0 : l = []
  · subst h0
    rw [if_pos rfl, ← code_spec]
    exact ⟨rfl, show (1 : Nat) ≠ 0 by decide⟩
  · rw [if_neg h0]
    by_cases h1 : 256 < l.length
    · rw [if_pos h1, if_neg (by omega)]
      exact ⟨rfl, show (2 : Nat) ≠ 0 by decide⟩
    · rw [if_neg h1, if_pos (by omega), ← code_spec]
      unfold codeV
      cases cut 46 l with
      | none => exact ⟨rfl, show (7 : Nat) ≠ 0 by decide⟩
      | some pr =>
        obtain ⟨p, r⟩ := pr
        dsimp only
        cases cut 46 r with
        | none => exact ⟨rfl, show (7 : Nat) ≠ 0 by decide⟩
        | some qs =>
          obtain ⟨q, s⟩ := qs
          exact metaR_toP p q s
def flatP : Option Parts → Int × Int × Int × ByteArray × ByteArray × Bool
  | some P => (P.M, P.m, P.t, B P.u, B P.v, true)
  | none => (0, 0, 0, ⟨#[]⟩, ⟨#[]⟩, false)
theorem specVal_flat (o : Option Parts) : specVal o = .tuple #[.agg #[.int .u64 (flatP o).1, .int .u64 (flatP o).2.1, .int .u64 (flatP o).2.2.1, .string (flatP o).2.2.2.1, .string (flatP o).2.2.2.2.1], .bool (flatP o).2.2.2.2.2] := by cases o <;> rfl
set_option maxHeartbeats 1000000 in
theorem SpecStrict_any (o : ByteArray) (hm : o.size ≤ maxLen) (w : World) : Calls Tryd.prog 35 #[.string o] w fun e w' => e = .returned (specVal (readV (tl o))) ∧ Below w.heap.size w w' := by
  have hs : o.size = (tl o).length := size_data o
  by_cases h1 : 256 < o.size
  · have hv : readV (tl o) = none := by unfold readV; rw [if_neg (by omega)]
    rw [hv]
    have c2 : decide (256 < o.size) = true := decide_eq_true h1
    clear hv hs
    go_enter Tryd.func35, Tryd.ntmps35
    go_wp2
    exact bodyPost_ret (v := specVal none) (by simp [specVal, results, Tryd.results35, go_sem]) rfl ⟨rfl, (Below.refl _ w).alloc (Nat.le_refl _) _⟩
  · have hv : readV (tl o) = specV (tl o) := by unfold readV; rw [if_pos (by omega)]
    rw [hv]
    have c2 : decide (256 < o.size) = false := decide_eq_false h1
    have X0 : ∀ w1, Calls Tryd.prog 90 #[.string o] w1 fun e w' => e = .returned (specVal (specV (tl o))) ∧ Below w1.heap.size w1 w' := by
      intro w1
      cases hok : okT (tl o) with
      | false =>
        rw [specV_alt, hok]
        exact grammar_bad o (by omega) w1 (Or.inl hok)
      | true =>
        by_cases h3 : (splitD (core 45 (core 43 (tl o)))).length = 3
        · obtain ⟨p, q, s, hsp⟩ : ∃ p q s, splitD (core 45 (core 43 (tl o))) = [p, q, s] := by
            generalize splitD (core 45 (core 43 (tl o))) = L at h3
            match L, h3 with
            | [p, q, s], _ => exact ⟨p, q, s, rfl⟩
          rw [specV_alt, hok, hsp]
          exact grammar_good o (by omega) w1 hok hsp
        · rw [spec_none h3]
          exact grammar_bad o (by omega) w1 (Or.inr h3)
    have X := Aside0.mk X0
    clear X0 hv hs
    generalize specV (tl o) = P at X ⊢
    cases P with
    | none =>
      go_enter Tryd.func35, Tryd.ntmps35
      go_wp2_with (first | (go_at_call 90; (with_reducible refine (X.out _).mono ?_); rintro e w2 ⟨rfl, hb3⟩; obtain ⟨hc, hf⟩ := bcell hb3; have hz := hb3.size; have HB1 : Below w.heap.size w w2 := ((Below.refl _ w).alloc (Nat.le_refl _) _).trans (hb3.mono (by simp)); rw [show specVal none = .tuple #[.agg #[.int .u64 0, .int .u64 0, .int .u64 0, .string ⟨#[]⟩, .string ⟨#[]⟩], .bool false] from rfl]))
      exact bodyPost_ret (v := specVal none) (by simp [specVal, results, Tryd.results35, go_sem, hc, hz]) rfl ⟨rfl, by first | exact HB1 | exact ((((HB1.setCell (Nat.le_refl _) _).setCell (Nat.le_refl _) _).setCell (Nat.le_refl _) _).setCell (Nat.le_refl _) _).setCell (Nat.le_refl _) _⟩
    | some P =>
      obtain ⟨M, m, t, u, v⟩ := P
      go_enter Tryd.func35, Tryd.ntmps35
      go_wp2_with (first | (go_at_call 90; (with_reducible refine (X.out _).mono ?_); rintro e w2 ⟨rfl, hb3⟩; obtain ⟨hc, hf⟩ := bcell hb3; have hz := hb3.size; have HB1 : Below w.heap.size w w2 := ((Below.refl _ w).alloc (Nat.le_refl _) _).trans (hb3.mono (by simp)); rw [show specVal (some ⟨M, m, t, u, v⟩) = .tuple #[.agg #[.int .u64 M, .int .u64 m, .int .u64 t, .string (B u), .string (B v)], .bool true] from rfl]))
      exact bodyPost_ret (v := specVal (some ⟨M, m, t, u, v⟩)) (by simp [specVal, results, Tryd.results35, go_sem, hc, hz]) rfl ⟨rfl, by first | exact HB1 | exact ((((HB1.setCell (Nat.le_refl _) _).setCell (Nat.le_refl _) _).setCell (Nat.le_refl _) _).setCell (Nat.le_refl _) _).setCell (Nat.le_refl _) _⟩
end Go.Proofs.YtalpehfjjidfhaaDoor.MS
namespace Go.Proofs.YtalpehfjjidfhaaDoor.HandS
open Go Go.RowKit Sv Hand MS
open Go.Proofs.YtalpehfjjidfhaaDoor.MA (tl)
set_option linter.unusedVariables false
/-- The error variables hold errors of their own. -/
def GlS (w : World) : Prop := ∃ E, Ge E [0, 1, 2, 3, 4, 5, 6, 9, 10] w
theorem GlS.below {w w' : World} (h : GlS w) (hb : Below w.heap.size w w') : GlS w' := by
  obtain ⟨E, hE⟩ := h
  exact ⟨E, hE.below hb⟩
def StrictVersion.f (a0 : ByteArray) : Option (Int × Int × Int × ByteArray × ByteArray × Bool) := if a0.size ≤ 140737488351232 then some (flatP (readV (tl a0))) else none
theorem StrictVersion.calls (a0 : ByteArray) (r1 r2 r3 : Int) (r4 r5 : ByteArray) (r6 : Bool) (w : World) (hG0 : GlS w) (h : StrictVersion.f a0 = some (r1, r2, r3, r4, r5, r6)) :
    Calls Tryd.prog 34 #[.string a0] w fun e w' => e = .returned (.tuple #[.agg #[.int .u64 r1, .int .u64 r2, .int .u64 r3, .string r4, .string r5], .bool r6]) ∧ Below w.heap.size w w' := by
  obtain ⟨E, hE⟩ := hG0
  unfold StrictVersion.f at h
  by_cases hs : a0.size ≤ 140737488351232
  · rw [if_pos hs] at h
    have hm : a0.size ≤ maxLen := Nat.le_trans hs (by unfold maxLen; decide)
    have := StrictVersion_any E a0 w hE hm (strict_toP (tl a0)).2
    rw [strictV_toP, (strict_toP (tl a0)).1, specVal_flat] at this
    rw [Option.some.inj h] at this
    exact this
  · rw [if_neg hs] at h; cases h
def SpecStrict.f (a0 : ByteArray) : Option (Int × Int × Int × ByteArray × ByteArray × Bool) := StrictVersion.f a0
theorem SpecStrict.calls (a0 : ByteArray) (r1 r2 r3 : Int) (r4 r5 : ByteArray) (r6 : Bool) (w : World) (h : SpecStrict.f a0 = some (r1, r2, r3, r4, r5, r6)) :
    Calls Tryd.prog 35 #[.string a0] w fun e w' => e = .returned (.tuple #[.agg #[.int .u64 r1, .int .u64 r2, .int .u64 r3, .string r4, .string r5], .bool r6]) ∧ Below w.heap.size w w' := by
  unfold SpecStrict.f StrictVersion.f at h
  by_cases hs : a0.size ≤ 140737488351232
  · rw [if_pos hs] at h
    have hm : a0.size ≤ maxLen := Nat.le_trans hs (by unfold maxLen; decide)
    have := SpecStrict_any a0 hm w
    rw [specVal_flat, Option.some.inj h] at this
    exact this
  · rw [if_neg hs] at h; cases h
end Go.Proofs.YtalpehfjjidfhaaDoor.HandS
