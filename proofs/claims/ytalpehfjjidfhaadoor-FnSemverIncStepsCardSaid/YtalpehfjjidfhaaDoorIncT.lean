/- What is proved: FnSemverIncSteps gives true, its walk by hand: a version is below its next patch version, that below its next minor version, that below its next major version. -/
import Derived.Test.YtalpehfjjidfhaaDoorRegI
import Derived.Test.YtalpehfjjidfhaaDoorMJx1
import Derived.Test.YtalpehfjjidfhaaDoorHandSetT
namespace Go.Proofs.YtalpehfjjidfhaaDoor.MJ
open Go Go.RowKit Sv Hand MS MT
open Go.Proofs.YtalpehfjjidfhaaDoorW.PrintWords Go.Proofs.YtalpehfjjidfhaaDoorW.PrintLast Go.Proofs.YtalpehfjjidfhaaDoorW.PrintMore
open Go.Proofs.YtalpehfjjidfhaaDoor.MA (tl)
set_option linter.unusedVariables false
set_option linter.unusedSimpArgs false
/-- A version's block. -/
def V29 (x : S29) : Obj := .cells #[.int .u64 x.f0, .int .u64 x.f1, .int .u64 x.f2, .string x.f3, .string x.f4] 29 (0, 0)
theorem R29_one (W : World) (x : S29) : k29.R 29 (W.alloc (.cells #[.int .u64 x.f0, .int .u64 x.f1, .int .u64 x.f2, .string x.f3, .string x.f4] 29)) 0 (fun _ => True) (.slice (some ⟨W.heap.size, 0, none⟩) 1 1) [x] := by
  refine ⟨fun _ _ => trivial, [.int .u64 x.f0, .int .u64 x.f1, .int .u64 x.f2, .string x.f3, .string x.f4], ?_, ?_⟩
  · have h2 := World.ownsRow_lit (base := 0) (e := 29) (size := 5) W #[.int .u64 x.f0, .int .u64 x.f1, .int .u64 x.f2, .string x.f3, .string x.f4] 1 (Nat.zero_le _) (by decide) (by simp)
    change World.ownsRow _ 0 29 5 _ _ _
    simpa using h2
  · exact Reps.c5 (k29_mkM _ _ _ x) (Reps.none _ _)
theorem C29_one (W : World) (x : S29) : Kd.C k29 (W.alloc (.cells #[.int .u64 x.f0, .int .u64 x.f1, .int .u64 x.f2, .string x.f3, .string x.f4] 29)) (some ⟨W.heap.size, 0, none⟩) [x].length [x] := (Kd.R_reads' (R29_one W x)).2.2
theorem svGood_one (k : Nat) (x : S29) (r : Bool) (W : World) (h : MT.laws_svGood.f k [x] = some r) : Calls Tryd.prog 26 #[.slice (some ⟨W.heap.size, 0, none⟩) 1 1] (W.alloc (.cells #[.int .u64 x.f0, .int .u64 x.f1, .int .u64 x.f2, .string x.f3, .string x.f4] 29)) fun e w' => e = .returned (.bool r) ∧ Below (W.alloc (.cells #[.int .u64 x.f0, .int .u64 x.f1, .int .u64 x.f2, .string x.f3, .string x.f4] 29)).heap.size (W.alloc (.cells #[.int .u64 x.f0, .int .u64 x.f1, .int .u64 x.f2, .string x.f3, .string x.f4] 29)) w' :=
  MT.laws_svGood.calls k _ 1 [x] r _ (C29_one W x) (Nat.le_refl _) h
set_option maxHeartbeats 4000000 in
set_option maxRecDepth 100000 in
theorem walk_big (x : S29) (w : World) (hz : MT.laws_zzFits14.f x.f0 x.f1 x.f2 x.f3 x.f4 = some false) :
    Calls Tryd.prog 14 #[.agg #[.int .u64 x.f0, .int .u64 x.f1, .int .u64 x.f2, .string x.f3, .string x.f4]] w fun e w' => e = .returned (.bool true) ∧ Below w.heap.size w w' := by
  have HZ := Aside0.mk hz
  have BASE := Aside0.mk ((Below.refl _ w).alloc (Nat.le_refl _) (.cells #[.int .u64 x.f0, .int .u64 x.f1, .int .u64 x.f2, .string x.f3, .string x.f4] 29))
  clear hz
  go_enter Tryd.func14, Tryd.ntmps14
  go_wp2_with (go_at_call 25; (with_reducible refine (MT.laws_zzFits14.calls _ _ _ _ _ false _ HZ.out).mono ?_); rintro e w1 ⟨rfl, hb1⟩; have HB := Aside0.mk (BASE.out.trans (hb1.mono (by simp))); clear hb1)
  go_ret
  exact ⟨rfl, HB.out⟩
set_option maxHeartbeats 4000000 in
set_option maxRecDepth 100000 in
theorem walk_bad (x : S29) (k : Nat) (w : World) (hz : MT.laws_zzFits14.f x.f0 x.f1 x.f2 x.f3 x.f4 = some true) (hg : MT.laws_svGood.f k [x] = some false) :
    Calls Tryd.prog 14 #[.agg #[.int .u64 x.f0, .int .u64 x.f1, .int .u64 x.f2, .string x.f3, .string x.f4]] w fun e w' => e = .returned (.bool true) ∧ Below w.heap.size w w' := by
  have HZ := Aside0.mk hz
  have HG := Aside0.mk hg
  have BASE := Aside0.mk ((Below.refl _ w).alloc (Nat.le_refl _) (.cells #[.int .u64 x.f0, .int .u64 x.f1, .int .u64 x.f2, .string x.f3, .string x.f4] 29))
  have HR := Aside0.mk (heap_at (w := w) (V29 x))
  unfold V29 at HR
  clear hz hg
  go_enter Tryd.func14, Tryd.ntmps14
  go_wp2_with (first | (go_at_call 25; (with_reducible refine (MT.laws_zzFits14.calls _ _ _ _ _ true _ HZ.out).mono ?_); rintro e w1 ⟨rfl, hb1⟩; have HB := Aside0.mk (BASE.out.trans (hb1.mono (by simp))); have HR1 := Aside0.mk (blk_below HR.out hb1); clear hb1; have c0 : w1.cell? ⟨w.heap.size, 0, none⟩ = some (.int .u64 x.f0) := (blk_cell HR1.out 0).trans rfl; have c1 : w1.cell? ⟨w.heap.size, 1, none⟩ = some (.int .u64 x.f1) := (blk_cell HR1.out 1).trans rfl; have c2 : w1.cell? ⟨w.heap.size, 2, none⟩ = some (.int .u64 x.f2) := (blk_cell HR1.out 2).trans rfl; have c3 : w1.cell? ⟨w.heap.size, 3, none⟩ = some (.string x.f3) := (blk_cell HR1.out 3).trans rfl; have c4 : w1.cell? ⟨w.heap.size, 4, none⟩ = some (.string x.f4) := (blk_cell HR1.out 4).trans rfl) | (go_at_call 26; (with_reducible refine (svGood_one k x false _ HG.out).mono ?_); rintro e w2 ⟨rfl, hb2⟩; have HB2 := Aside0.mk ((HB.out.alloc HB.out.size _).trans (hb2.mono (by have := HB.out.size; simp; omega))); clear hb2))
  go_ret
  exact ⟨rfl, HB2.out⟩
-- GEN
set_option maxHeartbeats 8000000 in
set_option maxRecDepth 100000 in
theorem walk_plain (x : S29) (k : Nat) (w : World) (hz : MT.laws_zzFits14.f x.f0 x.f1 x.f2 x.f3 x.f4 = some true) (hg : MT.laws_svGood.f k [x] = some true) (hp : spec_Plain.f k x.f0 x.f1 x.f2 x.f3 x.f4 = some false):
    Calls Tryd.prog 14 #[.agg #[.int .u64 x.f0, .int .u64 x.f1, .int .u64 x.f2, .string x.f3, .string x.f4]] w fun e w' => e = .returned (.bool true) ∧ Below w.heap.size w w' := by
  have HZ := Aside0.mk hz
  have HG := Aside0.mk hg
  have BASE := Aside0.mk ((Below.refl _ w).alloc (Nat.le_refl _) (.cells #[.int .u64 x.f0, .int .u64 x.f1, .int .u64 x.f2, .string x.f3, .string x.f4] 29))
  have HR := Aside0.mk (heap_at (w := w) (V29 x))
  unfold V29 at HR
  have HP := Aside0.mk hp
  clear hz hg hp
  go_enter Tryd.func14, Tryd.ntmps14
  go_wp2_with (first | (go_at_call 25; (with_reducible refine (MT.laws_zzFits14.calls _ _ _ _ _ true _ HZ.out).mono ?_); rintro e w1 ⟨rfl, hb1⟩; have HB := Aside0.mk (BASE.out.trans (hb1.mono (by simp))); have HR1 := Aside0.mk (blk_below HR.out hb1); clear hb1; have c0 : w1.cell? ⟨w.heap.size, 0, none⟩ = some (.int .u64 x.f0) := (blk_cell HR1.out 0).trans rfl; have c1 : w1.cell? ⟨w.heap.size, 1, none⟩ = some (.int .u64 x.f1) := (blk_cell HR1.out 1).trans rfl; have c2 : w1.cell? ⟨w.heap.size, 2, none⟩ = some (.int .u64 x.f2) := (blk_cell HR1.out 2).trans rfl; have c3 : w1.cell? ⟨w.heap.size, 3, none⟩ = some (.string x.f3) := (blk_cell HR1.out 3).trans rfl; have c4 : w1.cell? ⟨w.heap.size, 4, none⟩ = some (.string x.f4) := (blk_cell HR1.out 4).trans rfl) | (go_at_call 26; (with_reducible refine (svGood_one k x true _ HG.out).mono ?_); rintro e w2 ⟨rfl, hb2⟩; have HB2 := Aside0.mk ((HB.out.alloc HB.out.size _).trans (hb2.mono (by have := HB.out.size; simp; omega))); have HR2 := Aside0.mk (blk_below (heap_alloc HR1.out) hb2); clear hb2 HB HR1; clear c0 c1 c2 c3 c4; have d0 : w2.cell? ⟨w.heap.size, 0, none⟩ = some (.int .u64 x.f0) := (blk_cell HR2.out 0).trans rfl; have d1 : w2.cell? ⟨w.heap.size, 1, none⟩ = some (.int .u64 x.f1) := (blk_cell HR2.out 1).trans rfl; have d2 : w2.cell? ⟨w.heap.size, 2, none⟩ = some (.int .u64 x.f2) := (blk_cell HR2.out 2).trans rfl; have d3 : w2.cell? ⟨w.heap.size, 3, none⟩ = some (.string x.f3) := (blk_cell HR2.out 3).trans rfl; have d4 : w2.cell? ⟨w.heap.size, 4, none⟩ = some (.string x.f4) := (blk_cell HR2.out 4).trans rfl) | (go_at_call 56; (with_reducible refine (spec_Plain.calls k _ _ _ _ _ false _ HP.out).mono ?_); rintro e w3 ⟨rfl, hb3⟩; have HB3 := Aside0.mk (HB2.out.trans (hb3.mono HB2.out.size)); have HR3 := Aside0.mk (blk_below HR2.out hb3); clear hb3 HB2 HR2; clear d0 d1 d2 d3 d4; have e0 : w3.cell? ⟨w.heap.size, 0, none⟩ = some (.int .u64 x.f0) := (blk_cell HR3.out 0).trans rfl; have e1 : w3.cell? ⟨w.heap.size, 1, none⟩ = some (.int .u64 x.f1) := (blk_cell HR3.out 1).trans rfl; have e2 : w3.cell? ⟨w.heap.size, 2, none⟩ = some (.int .u64 x.f2) := (blk_cell HR3.out 2).trans rfl; have e3 : w3.cell? ⟨w.heap.size, 3, none⟩ = some (.string x.f3) := (blk_cell HR3.out 3).trans rfl; have e4 : w3.cell? ⟨w.heap.size, 4, none⟩ = some (.string x.f4) := (blk_cell HR3.out 4).trans rfl))
  go_ret
  exact ⟨rfl, HB3.out⟩
structure KB (P : Prop) : Prop where mk :: (out : P)
/-- The four versions' blocks. -/
structure Four (w w' : World) (n : Nat) (x y z u : S29) : Prop where mk ::
  (X : w'.heap[w.heap.size]? = some (V29 x))
  (Y : w'.heap[n]? = some (V29 y))
  (Z : w'.heap[n + 1]? = some (V29 z))
  (U : w'.heap[n + 1 + 1]? = some (V29 u))
  (B : Below w.heap.size w w')
  (G : HandS.GlI w')
theorem Four.below {w w1 w2 : World} {n : Nat} {x y z u : S29} (h : Four w w1 n x y z u) (hb : Below w1.heap.size w1 w2) : Four w w2 n x y z u :=
  ⟨blk_below h.X hb, blk_below h.Y hb, blk_below h.Z hb, blk_below h.U hb, h.B.trans (hb.mono h.B.size), h.G.below hb⟩
theorem four_start {w w1 : World} {x : S29} (y z u : S29) (hX : w1.heap[w.heap.size]? = some (V29 x)) (hB : Below w.heap.size w w1) (hG : HandS.GlI w1) : Four w (((w1.alloc (V29 y)).alloc (V29 z)).alloc (V29 u)) w1.heap.size x y z u := by
  have hb : Below w1.heap.size w1 (((w1.alloc (V29 y)).alloc (V29 z)).alloc (V29 u)) := (((Below.refl _ w1).alloc (Nat.le_refl _) _).alloc (by simp) _).alloc (by simp; omega) _
  refine ⟨heap_alloc (heap_alloc (heap_alloc hX)), heap_alloc (heap_alloc (heap_at _)), heap_alloc ?_, ?_, hB.trans (hb.mono hB.size), hG.below hb⟩
  · have := @heap_at (w1.alloc (V29 y)) (V29 z)
    rw [show (w1.alloc (V29 y)).heap.size = w1.heap.size + 1 by simp] at this
    exact this
  · have := @heap_at ((w1.alloc (V29 y)).alloc (V29 z)) (V29 u)
    rw [show ((w1.alloc (V29 y)).alloc (V29 z)).heap.size = w1.heap.size + 1 + 1 by simp] at this
    exact this
/-- The frame in the fifth region. -/
def fr (g : Nat) (x : S29) (v10 v3 v4 v5 v18 v19 v20 v21 v22 v23 : Value) : Act := { tmps := #[.agg #[.int .u64 x.f0, .int .u64 x.f1, .int .u64 x.f2, .string x.f3, .string x.f4], .pointer (some ⟨g, 0, none⟩), .bool false, v3, v4, v5, .agg #[.int .u64 x.f0, .int .u64 x.f1, .int .u64 x.f2, .string x.f3, .string x.f4], .bool true, .bool false, .agg #[.int .u64 x.f0, .int .u64 x.f1, .int .u64 x.f2, .string x.f3, .string x.f4], v10, .bool true, .bool false, .bool false, .agg #[.int .u64 x.f0, .int .u64 x.f1, .int .u64 x.f2, .string x.f3, .string x.f4], .bool true, .bool false, .bool false, v18, v19, v20, v21, v22, v23, undef, undef, undef, undef, undef, undef, undef, undef, undef, undef, undef, undef, undef], defers := [] }
def z29 : S29 := ⟨0, 0, 0, ⟨#[]⟩, ⟨#[]⟩⟩
/-- A block of the region's own. -/
def Own (w w' : World) (v : Value) (y : S29) : Prop := ∃ n, v = .pointer (some ⟨n, 0, none⟩) ∧ w.heap.size < n ∧ w'.heap[n]? = some (V29 y)
/-- What holds of the slots and the world, by what is done. -/
structure In5 (w : World) (x y z u : S29) (l : Array Bool) (v3 v4 v5 v18 v19 v20 v21 v22 v23 : Value) (w' : World) : Prop where mk ::
  (s18 : RegI.on l 0 = true → v18 = (.agg #[.int .u64 x.f0, .int .u64 x.f1, .int .u64 x.f2, .string x.f3, .string x.f4]))
  (s19 : RegI.on l 1 = true → v19 = (.agg #[.int .u64 y.f0, .int .u64 y.f1, .int .u64 y.f2, .string y.f3, .string y.f4]))
  (s20 : RegI.on l 2 = true → v20 = (.agg #[.int .u64 x.f0, .int .u64 x.f1, .int .u64 x.f2, .string x.f3, .string x.f4]))
  (s21 : RegI.on l 3 = true → v21 = (.agg #[.int .u64 z.f0, .int .u64 z.f1, .int .u64 z.f2, .string z.f3, .string z.f4]))
  (s22 : RegI.on l 4 = true → v22 = (.agg #[.int .u64 x.f0, .int .u64 x.f1, .int .u64 x.f2, .string x.f3, .string x.f4]))
  (s23 : RegI.on l 5 = true → v23 = (.agg #[.int .u64 u.f0, .int .u64 u.f1, .int .u64 u.f2, .string u.f3, .string u.f4]))
  (X : w'.heap[w.heap.size]? = some (V29 x))
  (B : Below w.heap.size w w')
  (w9 : RegI.on l 9 = true → RegI.on l 6 = true)
  (w10 : RegI.on l 10 = true → RegI.on l 7 = true)
  (w11 : RegI.on l 11 = true → RegI.on l 8 = true)
  (b3 : RegI.on l 6 = true → Own w w' v3 (if RegI.on l 9 then y else z29))
  (b4 : RegI.on l 7 = true → Own w w' v4 (if RegI.on l 10 then z else z29))
  (b5 : RegI.on l 8 = true → Own w w' v5 (if RegI.on l 11 then u else z29))
  (d34 : RegI.on l 6 = true → RegI.on l 7 = true → v3 ≠ v4)
  (d35 : RegI.on l 6 = true → RegI.on l 8 = true → v3 ≠ v5)
  (d45 : RegI.on l 7 = true → RegI.on l 8 = true → v4 ≠ v5)
theorem Own.below {w w1 w2 : World} {v : Value} {y : S29} (h : Own w w1 v y) (hb : Below w1.heap.size w1 w2) : Own w w2 v y := by
  obtain ⟨n, h1, h2, h3⟩ := h
  exact ⟨n, h1, h2, blk_below h3 hb⟩
theorem Own.lt {w w1 : World} {n : Nat} {y : S29} (h : Own w w1 (.pointer (some ⟨n, 0, none⟩)) y) : n < w1.heap.size := by
  obtain ⟨m, h1, h2, h3⟩ := h
  injection h1 with h1
  injection h1 with h1
  injection h1 with h1
  subst h1
  rcases Nat.lt_or_ge n w1.heap.size with h' | h'
  · exact h'
  · rw [Array.getElem?_eq_none h'] at h3; cases h3
theorem Own.fresh {w w1 : World} {v : Value} {y : S29} (h : Own w w1 v y) : v ≠ .pointer (some ⟨w1.heap.size, 0, none⟩) := by
  intro e
  subst e
  have := Own.lt h
  omega
theorem own_new {w w1 : World} {x : S29} (hb : Below w.heap.size w w1) (hX : w1.heap[w.heap.size]? = some (V29 x)) : Own w (w1.alloc (V29 z29)) (.pointer (some ⟨w1.heap.size, 0, none⟩)) z29 := by
  refine ⟨_, rfl, ?_, heap_at _⟩
  rcases Nat.lt_or_ge w.heap.size w1.heap.size with h' | h'
  · exact h'
  · rw [Array.getElem?_eq_none h'] at hX; cases hX
theorem In5.op0 {w w' : World} {x y z u : S29} {l : Array Bool} {v3 v4 v5 v18 v19 v20 v21 v22 v23 : Value} (hl : l.size = 12) (hI : In5 w x y z u l v3 v4 v5 v18 v19 v20 v21 v22 v23 w') (hf : RegI.on l 0 = false) : In5 w x y z u (l.setIfInBounds 0 true) v3 v4 v5 (.agg #[.int .u64 x.f0, .int .u64 x.f1, .int .u64 x.f2, .string x.f3, .string x.f4]) v19 v20 v21 v22 v23 w' := by
  have e0 : RegI.on (l.setIfInBounds 0 true) 0 = true := by rw [RegI.on_set (by omega)]; rfl
  have e1 : RegI.on (l.setIfInBounds 0 true) 1 = RegI.on l 1 := by rw [RegI.on_set (by omega)]; rfl
  have e2 : RegI.on (l.setIfInBounds 0 true) 2 = RegI.on l 2 := by rw [RegI.on_set (by omega)]; rfl
  have e3 : RegI.on (l.setIfInBounds 0 true) 3 = RegI.on l 3 := by rw [RegI.on_set (by omega)]; rfl
  have e4 : RegI.on (l.setIfInBounds 0 true) 4 = RegI.on l 4 := by rw [RegI.on_set (by omega)]; rfl
  have e5 : RegI.on (l.setIfInBounds 0 true) 5 = RegI.on l 5 := by rw [RegI.on_set (by omega)]; rfl
  have e6 : RegI.on (l.setIfInBounds 0 true) 6 = RegI.on l 6 := by rw [RegI.on_set (by omega)]; rfl
  have e7 : RegI.on (l.setIfInBounds 0 true) 7 = RegI.on l 7 := by rw [RegI.on_set (by omega)]; rfl
  have e8 : RegI.on (l.setIfInBounds 0 true) 8 = RegI.on l 8 := by rw [RegI.on_set (by omega)]; rfl
  have e9 : RegI.on (l.setIfInBounds 0 true) 9 = RegI.on l 9 := by rw [RegI.on_set (by omega)]; rfl
  have e10 : RegI.on (l.setIfInBounds 0 true) 10 = RegI.on l 10 := by rw [RegI.on_set (by omega)]; rfl
  have e11 : RegI.on (l.setIfInBounds 0 true) 11 = RegI.on l 11 := by rw [RegI.on_set (by omega)]; rfl
  refine ⟨?s18, ?s19, ?s20, ?s21, ?s22, ?s23, ?X, ?B, ?w9, ?w10, ?w11, ?b3, ?b4, ?b5, ?d34, ?d35, ?d45⟩
  case s18 => intro _; rfl
  case s19 => rw [e1]; exact hI.s19
  case s20 => rw [e2]; exact hI.s20
  case s21 => rw [e3]; exact hI.s21
  case s22 => rw [e4]; exact hI.s22
  case s23 => rw [e5]; exact hI.s23
  case X => exact hI.X
  case B => exact hI.B
  case w9 => rw [e9, e6]; exact hI.w9
  case w10 => rw [e10, e7]; exact hI.w10
  case w11 => rw [e11, e8]; exact hI.w11
  case b3 => rw [e6, e9]; exact fun h => (hI.b3 h)
  case b4 => rw [e7, e10]; exact fun h => (hI.b4 h)
  case b5 => rw [e8, e11]; exact fun h => (hI.b5 h)
  case d34 => rw [e6, e7]; exact hI.d34
  case d35 => rw [e6, e8]; exact hI.d35
  case d45 => rw [e7, e8]; exact hI.d45
theorem In5.op2 {w w' : World} {x y z u : S29} {l : Array Bool} {v3 v4 v5 v18 v19 v20 v21 v22 v23 : Value} (hl : l.size = 12) (hI : In5 w x y z u l v3 v4 v5 v18 v19 v20 v21 v22 v23 w') (hf : RegI.on l 2 = false) : In5 w x y z u (l.setIfInBounds 2 true) v3 v4 v5 v18 v19 (.agg #[.int .u64 x.f0, .int .u64 x.f1, .int .u64 x.f2, .string x.f3, .string x.f4]) v21 v22 v23 w' := by
  have e0 : RegI.on (l.setIfInBounds 2 true) 0 = RegI.on l 0 := by rw [RegI.on_set (by omega)]; rfl
  have e1 : RegI.on (l.setIfInBounds 2 true) 1 = RegI.on l 1 := by rw [RegI.on_set (by omega)]; rfl
  have e2 : RegI.on (l.setIfInBounds 2 true) 2 = true := by rw [RegI.on_set (by omega)]; rfl
  have e3 : RegI.on (l.setIfInBounds 2 true) 3 = RegI.on l 3 := by rw [RegI.on_set (by omega)]; rfl
  have e4 : RegI.on (l.setIfInBounds 2 true) 4 = RegI.on l 4 := by rw [RegI.on_set (by omega)]; rfl
  have e5 : RegI.on (l.setIfInBounds 2 true) 5 = RegI.on l 5 := by rw [RegI.on_set (by omega)]; rfl
  have e6 : RegI.on (l.setIfInBounds 2 true) 6 = RegI.on l 6 := by rw [RegI.on_set (by omega)]; rfl
  have e7 : RegI.on (l.setIfInBounds 2 true) 7 = RegI.on l 7 := by rw [RegI.on_set (by omega)]; rfl
  have e8 : RegI.on (l.setIfInBounds 2 true) 8 = RegI.on l 8 := by rw [RegI.on_set (by omega)]; rfl
  have e9 : RegI.on (l.setIfInBounds 2 true) 9 = RegI.on l 9 := by rw [RegI.on_set (by omega)]; rfl
  have e10 : RegI.on (l.setIfInBounds 2 true) 10 = RegI.on l 10 := by rw [RegI.on_set (by omega)]; rfl
  have e11 : RegI.on (l.setIfInBounds 2 true) 11 = RegI.on l 11 := by rw [RegI.on_set (by omega)]; rfl
  refine ⟨?s18, ?s19, ?s20, ?s21, ?s22, ?s23, ?X, ?B, ?w9, ?w10, ?w11, ?b3, ?b4, ?b5, ?d34, ?d35, ?d45⟩
  case s18 => rw [e0]; exact hI.s18
  case s19 => rw [e1]; exact hI.s19
  case s20 => intro _; rfl
  case s21 => rw [e3]; exact hI.s21
  case s22 => rw [e4]; exact hI.s22
  case s23 => rw [e5]; exact hI.s23
  case X => exact hI.X
  case B => exact hI.B
  case w9 => rw [e9, e6]; exact hI.w9
  case w10 => rw [e10, e7]; exact hI.w10
  case w11 => rw [e11, e8]; exact hI.w11
  case b3 => rw [e6, e9]; exact fun h => (hI.b3 h)
  case b4 => rw [e7, e10]; exact fun h => (hI.b4 h)
  case b5 => rw [e8, e11]; exact fun h => (hI.b5 h)
  case d34 => rw [e6, e7]; exact hI.d34
  case d35 => rw [e6, e8]; exact hI.d35
  case d45 => rw [e7, e8]; exact hI.d45
theorem In5.op4 {w w' : World} {x y z u : S29} {l : Array Bool} {v3 v4 v5 v18 v19 v20 v21 v22 v23 : Value} (hl : l.size = 12) (hI : In5 w x y z u l v3 v4 v5 v18 v19 v20 v21 v22 v23 w') (hf : RegI.on l 4 = false) : In5 w x y z u (l.setIfInBounds 4 true) v3 v4 v5 v18 v19 v20 v21 (.agg #[.int .u64 x.f0, .int .u64 x.f1, .int .u64 x.f2, .string x.f3, .string x.f4]) v23 w' := by
  have e0 : RegI.on (l.setIfInBounds 4 true) 0 = RegI.on l 0 := by rw [RegI.on_set (by omega)]; rfl
  have e1 : RegI.on (l.setIfInBounds 4 true) 1 = RegI.on l 1 := by rw [RegI.on_set (by omega)]; rfl
  have e2 : RegI.on (l.setIfInBounds 4 true) 2 = RegI.on l 2 := by rw [RegI.on_set (by omega)]; rfl
  have e3 : RegI.on (l.setIfInBounds 4 true) 3 = RegI.on l 3 := by rw [RegI.on_set (by omega)]; rfl
  have e4 : RegI.on (l.setIfInBounds 4 true) 4 = true := by rw [RegI.on_set (by omega)]; rfl
  have e5 : RegI.on (l.setIfInBounds 4 true) 5 = RegI.on l 5 := by rw [RegI.on_set (by omega)]; rfl
  have e6 : RegI.on (l.setIfInBounds 4 true) 6 = RegI.on l 6 := by rw [RegI.on_set (by omega)]; rfl
  have e7 : RegI.on (l.setIfInBounds 4 true) 7 = RegI.on l 7 := by rw [RegI.on_set (by omega)]; rfl
  have e8 : RegI.on (l.setIfInBounds 4 true) 8 = RegI.on l 8 := by rw [RegI.on_set (by omega)]; rfl
  have e9 : RegI.on (l.setIfInBounds 4 true) 9 = RegI.on l 9 := by rw [RegI.on_set (by omega)]; rfl
  have e10 : RegI.on (l.setIfInBounds 4 true) 10 = RegI.on l 10 := by rw [RegI.on_set (by omega)]; rfl
  have e11 : RegI.on (l.setIfInBounds 4 true) 11 = RegI.on l 11 := by rw [RegI.on_set (by omega)]; rfl
  refine ⟨?s18, ?s19, ?s20, ?s21, ?s22, ?s23, ?X, ?B, ?w9, ?w10, ?w11, ?b3, ?b4, ?b5, ?d34, ?d35, ?d45⟩
  case s18 => rw [e0]; exact hI.s18
  case s19 => rw [e1]; exact hI.s19
  case s20 => rw [e2]; exact hI.s20
  case s21 => rw [e3]; exact hI.s21
  case s22 => intro _; rfl
  case s23 => rw [e5]; exact hI.s23
  case X => exact hI.X
  case B => exact hI.B
  case w9 => rw [e9, e6]; exact hI.w9
  case w10 => rw [e10, e7]; exact hI.w10
  case w11 => rw [e11, e8]; exact hI.w11
  case b3 => rw [e6, e9]; exact fun h => (hI.b3 h)
  case b4 => rw [e7, e10]; exact fun h => (hI.b4 h)
  case b5 => rw [e8, e11]; exact fun h => (hI.b5 h)
  case d34 => rw [e6, e7]; exact hI.d34
  case d35 => rw [e6, e8]; exact hI.d35
  case d45 => rw [e7, e8]; exact hI.d45
theorem In5.op1 {w w' w2 : World} {x y z u : S29} {l : Array Bool} {v3 v4 v5 v18 v19 v20 v21 v22 v23 : Value} (hl : l.size = 12) (hI : In5 w x y z u l v3 v4 v5 v18 v19 v20 v21 v22 v23 w') (hf : RegI.on l 1 = false) (hb : Below w'.heap.size w' w2) : In5 w x y z u (l.setIfInBounds 1 true) v3 v4 v5 v18 (.agg #[.int .u64 y.f0, .int .u64 y.f1, .int .u64 y.f2, .string y.f3, .string y.f4]) v20 v21 v22 v23 w2 := by
  have e0 : RegI.on (l.setIfInBounds 1 true) 0 = RegI.on l 0 := by rw [RegI.on_set (by omega)]; rfl
  have e1 : RegI.on (l.setIfInBounds 1 true) 1 = true := by rw [RegI.on_set (by omega)]; rfl
  have e2 : RegI.on (l.setIfInBounds 1 true) 2 = RegI.on l 2 := by rw [RegI.on_set (by omega)]; rfl
  have e3 : RegI.on (l.setIfInBounds 1 true) 3 = RegI.on l 3 := by rw [RegI.on_set (by omega)]; rfl
  have e4 : RegI.on (l.setIfInBounds 1 true) 4 = RegI.on l 4 := by rw [RegI.on_set (by omega)]; rfl
  have e5 : RegI.on (l.setIfInBounds 1 true) 5 = RegI.on l 5 := by rw [RegI.on_set (by omega)]; rfl
  have e6 : RegI.on (l.setIfInBounds 1 true) 6 = RegI.on l 6 := by rw [RegI.on_set (by omega)]; rfl
  have e7 : RegI.on (l.setIfInBounds 1 true) 7 = RegI.on l 7 := by rw [RegI.on_set (by omega)]; rfl
  have e8 : RegI.on (l.setIfInBounds 1 true) 8 = RegI.on l 8 := by rw [RegI.on_set (by omega)]; rfl
  have e9 : RegI.on (l.setIfInBounds 1 true) 9 = RegI.on l 9 := by rw [RegI.on_set (by omega)]; rfl
  have e10 : RegI.on (l.setIfInBounds 1 true) 10 = RegI.on l 10 := by rw [RegI.on_set (by omega)]; rfl
  have e11 : RegI.on (l.setIfInBounds 1 true) 11 = RegI.on l 11 := by rw [RegI.on_set (by omega)]; rfl
  refine ⟨?s18, ?s19, ?s20, ?s21, ?s22, ?s23, ?X, ?B, ?w9, ?w10, ?w11, ?b3, ?b4, ?b5, ?d34, ?d35, ?d45⟩
  case s18 => rw [e0]; exact hI.s18
  case s19 => intro _; rfl
  case s20 => rw [e2]; exact hI.s20
  case s21 => rw [e3]; exact hI.s21
  case s22 => rw [e4]; exact hI.s22
  case s23 => rw [e5]; exact hI.s23
  case X => exact blk_below hI.X hb
  case B => exact hI.B.trans (hb.mono hI.B.size)
  case w9 => rw [e9, e6]; exact hI.w9
  case w10 => rw [e10, e7]; exact hI.w10
  case w11 => rw [e11, e8]; exact hI.w11
  case b3 => rw [e6, e9]; exact fun h => (hI.b3 h).below hb
  case b4 => rw [e7, e10]; exact fun h => (hI.b4 h).below hb
  case b5 => rw [e8, e11]; exact fun h => (hI.b5 h).below hb
  case d34 => rw [e6, e7]; exact hI.d34
  case d35 => rw [e6, e8]; exact hI.d35
  case d45 => rw [e7, e8]; exact hI.d45
theorem In5.op3 {w w' w2 : World} {x y z u : S29} {l : Array Bool} {v3 v4 v5 v18 v19 v20 v21 v22 v23 : Value} (hl : l.size = 12) (hI : In5 w x y z u l v3 v4 v5 v18 v19 v20 v21 v22 v23 w') (hf : RegI.on l 3 = false) (hb : Below w'.heap.size w' w2) : In5 w x y z u (l.setIfInBounds 3 true) v3 v4 v5 v18 v19 v20 (.agg #[.int .u64 z.f0, .int .u64 z.f1, .int .u64 z.f2, .string z.f3, .string z.f4]) v22 v23 w2 := by
  have e0 : RegI.on (l.setIfInBounds 3 true) 0 = RegI.on l 0 := by rw [RegI.on_set (by omega)]; rfl
  have e1 : RegI.on (l.setIfInBounds 3 true) 1 = RegI.on l 1 := by rw [RegI.on_set (by omega)]; rfl
  have e2 : RegI.on (l.setIfInBounds 3 true) 2 = RegI.on l 2 := by rw [RegI.on_set (by omega)]; rfl
  have e3 : RegI.on (l.setIfInBounds 3 true) 3 = true := by rw [RegI.on_set (by omega)]; rfl
  have e4 : RegI.on (l.setIfInBounds 3 true) 4 = RegI.on l 4 := by rw [RegI.on_set (by omega)]; rfl
  have e5 : RegI.on (l.setIfInBounds 3 true) 5 = RegI.on l 5 := by rw [RegI.on_set (by omega)]; rfl
  have e6 : RegI.on (l.setIfInBounds 3 true) 6 = RegI.on l 6 := by rw [RegI.on_set (by omega)]; rfl
  have e7 : RegI.on (l.setIfInBounds 3 true) 7 = RegI.on l 7 := by rw [RegI.on_set (by omega)]; rfl
  have e8 : RegI.on (l.setIfInBounds 3 true) 8 = RegI.on l 8 := by rw [RegI.on_set (by omega)]; rfl
  have e9 : RegI.on (l.setIfInBounds 3 true) 9 = RegI.on l 9 := by rw [RegI.on_set (by omega)]; rfl
  have e10 : RegI.on (l.setIfInBounds 3 true) 10 = RegI.on l 10 := by rw [RegI.on_set (by omega)]; rfl
  have e11 : RegI.on (l.setIfInBounds 3 true) 11 = RegI.on l 11 := by rw [RegI.on_set (by omega)]; rfl
  refine ⟨?s18, ?s19, ?s20, ?s21, ?s22, ?s23, ?X, ?B, ?w9, ?w10, ?w11, ?b3, ?b4, ?b5, ?d34, ?d35, ?d45⟩
  case s18 => rw [e0]; exact hI.s18
  case s19 => rw [e1]; exact hI.s19
  case s20 => rw [e2]; exact hI.s20
  case s21 => intro _; rfl
  case s22 => rw [e4]; exact hI.s22
  case s23 => rw [e5]; exact hI.s23
  case X => exact blk_below hI.X hb
  case B => exact hI.B.trans (hb.mono hI.B.size)
  case w9 => rw [e9, e6]; exact hI.w9
  case w10 => rw [e10, e7]; exact hI.w10
  case w11 => rw [e11, e8]; exact hI.w11
  case b3 => rw [e6, e9]; exact fun h => (hI.b3 h).below hb
  case b4 => rw [e7, e10]; exact fun h => (hI.b4 h).below hb
  case b5 => rw [e8, e11]; exact fun h => (hI.b5 h).below hb
  case d34 => rw [e6, e7]; exact hI.d34
  case d35 => rw [e6, e8]; exact hI.d35
  case d45 => rw [e7, e8]; exact hI.d45
theorem In5.op5 {w w' w2 : World} {x y z u : S29} {l : Array Bool} {v3 v4 v5 v18 v19 v20 v21 v22 v23 : Value} (hl : l.size = 12) (hI : In5 w x y z u l v3 v4 v5 v18 v19 v20 v21 v22 v23 w') (hf : RegI.on l 5 = false) (hb : Below w'.heap.size w' w2) : In5 w x y z u (l.setIfInBounds 5 true) v3 v4 v5 v18 v19 v20 v21 v22 (.agg #[.int .u64 u.f0, .int .u64 u.f1, .int .u64 u.f2, .string u.f3, .string u.f4]) w2 := by
  have e0 : RegI.on (l.setIfInBounds 5 true) 0 = RegI.on l 0 := by rw [RegI.on_set (by omega)]; rfl
  have e1 : RegI.on (l.setIfInBounds 5 true) 1 = RegI.on l 1 := by rw [RegI.on_set (by omega)]; rfl
  have e2 : RegI.on (l.setIfInBounds 5 true) 2 = RegI.on l 2 := by rw [RegI.on_set (by omega)]; rfl
  have e3 : RegI.on (l.setIfInBounds 5 true) 3 = RegI.on l 3 := by rw [RegI.on_set (by omega)]; rfl
  have e4 : RegI.on (l.setIfInBounds 5 true) 4 = RegI.on l 4 := by rw [RegI.on_set (by omega)]; rfl
  have e5 : RegI.on (l.setIfInBounds 5 true) 5 = true := by rw [RegI.on_set (by omega)]; rfl
  have e6 : RegI.on (l.setIfInBounds 5 true) 6 = RegI.on l 6 := by rw [RegI.on_set (by omega)]; rfl
  have e7 : RegI.on (l.setIfInBounds 5 true) 7 = RegI.on l 7 := by rw [RegI.on_set (by omega)]; rfl
  have e8 : RegI.on (l.setIfInBounds 5 true) 8 = RegI.on l 8 := by rw [RegI.on_set (by omega)]; rfl
  have e9 : RegI.on (l.setIfInBounds 5 true) 9 = RegI.on l 9 := by rw [RegI.on_set (by omega)]; rfl
  have e10 : RegI.on (l.setIfInBounds 5 true) 10 = RegI.on l 10 := by rw [RegI.on_set (by omega)]; rfl
  have e11 : RegI.on (l.setIfInBounds 5 true) 11 = RegI.on l 11 := by rw [RegI.on_set (by omega)]; rfl
  refine ⟨?s18, ?s19, ?s20, ?s21, ?s22, ?s23, ?X, ?B, ?w9, ?w10, ?w11, ?b3, ?b4, ?b5, ?d34, ?d35, ?d45⟩
  case s18 => rw [e0]; exact hI.s18
  case s19 => rw [e1]; exact hI.s19
  case s20 => rw [e2]; exact hI.s20
  case s21 => rw [e3]; exact hI.s21
  case s22 => rw [e4]; exact hI.s22
  case s23 => intro _; rfl
  case X => exact blk_below hI.X hb
  case B => exact hI.B.trans (hb.mono hI.B.size)
  case w9 => rw [e9, e6]; exact hI.w9
  case w10 => rw [e10, e7]; exact hI.w10
  case w11 => rw [e11, e8]; exact hI.w11
  case b3 => rw [e6, e9]; exact fun h => (hI.b3 h).below hb
  case b4 => rw [e7, e10]; exact fun h => (hI.b4 h).below hb
  case b5 => rw [e8, e11]; exact fun h => (hI.b5 h).below hb
  case d34 => rw [e6, e7]; exact hI.d34
  case d35 => rw [e6, e8]; exact hI.d35
  case d45 => rw [e7, e8]; exact hI.d45
theorem In5.op6 {w w' : World} {x y z u : S29} {l : Array Bool} {v3 v4 v5 v18 v19 v20 v21 v22 v23 : Value} (hl : l.size = 12) (hI : In5 w x y z u l v3 v4 v5 v18 v19 v20 v21 v22 v23 w') (hf : RegI.on l 6 = false) : In5 w x y z u (l.setIfInBounds 6 true) (.pointer (some ⟨w'.heap.size, 0, none⟩)) v4 v5 v18 v19 v20 v21 v22 v23 (w'.alloc (V29 z29)) := by
  have e0 : RegI.on (l.setIfInBounds 6 true) 0 = RegI.on l 0 := by rw [RegI.on_set (by omega)]; rfl
  have e1 : RegI.on (l.setIfInBounds 6 true) 1 = RegI.on l 1 := by rw [RegI.on_set (by omega)]; rfl
  have e2 : RegI.on (l.setIfInBounds 6 true) 2 = RegI.on l 2 := by rw [RegI.on_set (by omega)]; rfl
  have e3 : RegI.on (l.setIfInBounds 6 true) 3 = RegI.on l 3 := by rw [RegI.on_set (by omega)]; rfl
  have e4 : RegI.on (l.setIfInBounds 6 true) 4 = RegI.on l 4 := by rw [RegI.on_set (by omega)]; rfl
  have e5 : RegI.on (l.setIfInBounds 6 true) 5 = RegI.on l 5 := by rw [RegI.on_set (by omega)]; rfl
  have e6 : RegI.on (l.setIfInBounds 6 true) 6 = true := by rw [RegI.on_set (by omega)]; rfl
  have e7 : RegI.on (l.setIfInBounds 6 true) 7 = RegI.on l 7 := by rw [RegI.on_set (by omega)]; rfl
  have e8 : RegI.on (l.setIfInBounds 6 true) 8 = RegI.on l 8 := by rw [RegI.on_set (by omega)]; rfl
  have e9 : RegI.on (l.setIfInBounds 6 true) 9 = RegI.on l 9 := by rw [RegI.on_set (by omega)]; rfl
  have e10 : RegI.on (l.setIfInBounds 6 true) 10 = RegI.on l 10 := by rw [RegI.on_set (by omega)]; rfl
  have e11 : RegI.on (l.setIfInBounds 6 true) 11 = RegI.on l 11 := by rw [RegI.on_set (by omega)]; rfl
  have hb : Below w'.heap.size w' (w'.alloc (V29 z29)) := (Below.refl _ _).alloc (Nat.le_refl _) _
  have hx : RegI.on l 9 = false := by cases h : RegI.on l 9; rfl; rw [hI.w9 h] at hf; exact hf
  refine ⟨?s18, ?s19, ?s20, ?s21, ?s22, ?s23, ?X, ?B, ?w9, ?w10, ?w11, ?b3, ?b4, ?b5, ?d34, ?d35, ?d45⟩
  case s18 => rw [e0]; exact hI.s18
  case s19 => rw [e1]; exact hI.s19
  case s20 => rw [e2]; exact hI.s20
  case s21 => rw [e3]; exact hI.s21
  case s22 => rw [e4]; exact hI.s22
  case s23 => rw [e5]; exact hI.s23
  case X => exact blk_below hI.X hb
  case B => exact hI.B.trans (hb.mono hI.B.size)
  case w9 => intro _; exact e6
  case w10 => rw [e10, e7]; exact hI.w10
  case w11 => rw [e11, e8]; exact hI.w11
  case b3 => rw [e6, e9, hx]; intro _; exact own_new hI.B hI.X
  case b4 => rw [e7, e10]; exact fun h => (hI.b4 h).below hb
  case b5 => rw [e8, e11]; exact fun h => (hI.b5 h).below hb
  case d34 => rw [e6, e7]; intro _ h; exact fun e => (hI.b4 h).fresh e.symm
  case d35 => rw [e6, e8]; intro _ h; exact fun e => (hI.b5 h).fresh e.symm
  case d45 => rw [e7, e8]; exact hI.d45
theorem In5.op7 {w w' : World} {x y z u : S29} {l : Array Bool} {v3 v4 v5 v18 v19 v20 v21 v22 v23 : Value} (hl : l.size = 12) (hI : In5 w x y z u l v3 v4 v5 v18 v19 v20 v21 v22 v23 w') (hf : RegI.on l 7 = false) : In5 w x y z u (l.setIfInBounds 7 true) v3 (.pointer (some ⟨w'.heap.size, 0, none⟩)) v5 v18 v19 v20 v21 v22 v23 (w'.alloc (V29 z29)) := by
  have e0 : RegI.on (l.setIfInBounds 7 true) 0 = RegI.on l 0 := by rw [RegI.on_set (by omega)]; rfl
  have e1 : RegI.on (l.setIfInBounds 7 true) 1 = RegI.on l 1 := by rw [RegI.on_set (by omega)]; rfl
  have e2 : RegI.on (l.setIfInBounds 7 true) 2 = RegI.on l 2 := by rw [RegI.on_set (by omega)]; rfl
  have e3 : RegI.on (l.setIfInBounds 7 true) 3 = RegI.on l 3 := by rw [RegI.on_set (by omega)]; rfl
  have e4 : RegI.on (l.setIfInBounds 7 true) 4 = RegI.on l 4 := by rw [RegI.on_set (by omega)]; rfl
  have e5 : RegI.on (l.setIfInBounds 7 true) 5 = RegI.on l 5 := by rw [RegI.on_set (by omega)]; rfl
  have e6 : RegI.on (l.setIfInBounds 7 true) 6 = RegI.on l 6 := by rw [RegI.on_set (by omega)]; rfl
  have e7 : RegI.on (l.setIfInBounds 7 true) 7 = true := by rw [RegI.on_set (by omega)]; rfl
  have e8 : RegI.on (l.setIfInBounds 7 true) 8 = RegI.on l 8 := by rw [RegI.on_set (by omega)]; rfl
  have e9 : RegI.on (l.setIfInBounds 7 true) 9 = RegI.on l 9 := by rw [RegI.on_set (by omega)]; rfl
  have e10 : RegI.on (l.setIfInBounds 7 true) 10 = RegI.on l 10 := by rw [RegI.on_set (by omega)]; rfl
  have e11 : RegI.on (l.setIfInBounds 7 true) 11 = RegI.on l 11 := by rw [RegI.on_set (by omega)]; rfl
  have hb : Below w'.heap.size w' (w'.alloc (V29 z29)) := (Below.refl _ _).alloc (Nat.le_refl _) _
  have hx : RegI.on l 10 = false := by cases h : RegI.on l 10; rfl; rw [hI.w10 h] at hf; exact hf
  refine ⟨?s18, ?s19, ?s20, ?s21, ?s22, ?s23, ?X, ?B, ?w9, ?w10, ?w11, ?b3, ?b4, ?b5, ?d34, ?d35, ?d45⟩
  case s18 => rw [e0]; exact hI.s18
  case s19 => rw [e1]; exact hI.s19
  case s20 => rw [e2]; exact hI.s20
  case s21 => rw [e3]; exact hI.s21
  case s22 => rw [e4]; exact hI.s22
  case s23 => rw [e5]; exact hI.s23
  case X => exact blk_below hI.X hb
  case B => exact hI.B.trans (hb.mono hI.B.size)
  case w9 => rw [e9, e6]; exact hI.w9
  case w10 => intro _; exact e7
  case w11 => rw [e11, e8]; exact hI.w11
  case b3 => rw [e6, e9]; exact fun h => (hI.b3 h).below hb
  case b4 => rw [e7, e10, hx]; intro _; exact own_new hI.B hI.X
  case b5 => rw [e8, e11]; exact fun h => (hI.b5 h).below hb
  case d34 => rw [e6, e7]; intro h _; exact (hI.b3 h).fresh
  case d35 => rw [e6, e8]; exact hI.d35
  case d45 => rw [e7, e8]; intro _ h; exact fun e => (hI.b5 h).fresh e.symm
theorem In5.op8 {w w' : World} {x y z u : S29} {l : Array Bool} {v3 v4 v5 v18 v19 v20 v21 v22 v23 : Value} (hl : l.size = 12) (hI : In5 w x y z u l v3 v4 v5 v18 v19 v20 v21 v22 v23 w') (hf : RegI.on l 8 = false) : In5 w x y z u (l.setIfInBounds 8 true) v3 v4 (.pointer (some ⟨w'.heap.size, 0, none⟩)) v18 v19 v20 v21 v22 v23 (w'.alloc (V29 z29)) := by
  have e0 : RegI.on (l.setIfInBounds 8 true) 0 = RegI.on l 0 := by rw [RegI.on_set (by omega)]; rfl
  have e1 : RegI.on (l.setIfInBounds 8 true) 1 = RegI.on l 1 := by rw [RegI.on_set (by omega)]; rfl
  have e2 : RegI.on (l.setIfInBounds 8 true) 2 = RegI.on l 2 := by rw [RegI.on_set (by omega)]; rfl
  have e3 : RegI.on (l.setIfInBounds 8 true) 3 = RegI.on l 3 := by rw [RegI.on_set (by omega)]; rfl
  have e4 : RegI.on (l.setIfInBounds 8 true) 4 = RegI.on l 4 := by rw [RegI.on_set (by omega)]; rfl
  have e5 : RegI.on (l.setIfInBounds 8 true) 5 = RegI.on l 5 := by rw [RegI.on_set (by omega)]; rfl
  have e6 : RegI.on (l.setIfInBounds 8 true) 6 = RegI.on l 6 := by rw [RegI.on_set (by omega)]; rfl
  have e7 : RegI.on (l.setIfInBounds 8 true) 7 = RegI.on l 7 := by rw [RegI.on_set (by omega)]; rfl
  have e8 : RegI.on (l.setIfInBounds 8 true) 8 = true := by rw [RegI.on_set (by omega)]; rfl
  have e9 : RegI.on (l.setIfInBounds 8 true) 9 = RegI.on l 9 := by rw [RegI.on_set (by omega)]; rfl
  have e10 : RegI.on (l.setIfInBounds 8 true) 10 = RegI.on l 10 := by rw [RegI.on_set (by omega)]; rfl
  have e11 : RegI.on (l.setIfInBounds 8 true) 11 = RegI.on l 11 := by rw [RegI.on_set (by omega)]; rfl
  have hb : Below w'.heap.size w' (w'.alloc (V29 z29)) := (Below.refl _ _).alloc (Nat.le_refl _) _
  have hx : RegI.on l 11 = false := by cases h : RegI.on l 11; rfl; rw [hI.w11 h] at hf; exact hf
  refine ⟨?s18, ?s19, ?s20, ?s21, ?s22, ?s23, ?X, ?B, ?w9, ?w10, ?w11, ?b3, ?b4, ?b5, ?d34, ?d35, ?d45⟩
  case s18 => rw [e0]; exact hI.s18
  case s19 => rw [e1]; exact hI.s19
  case s20 => rw [e2]; exact hI.s20
  case s21 => rw [e3]; exact hI.s21
  case s22 => rw [e4]; exact hI.s22
  case s23 => rw [e5]; exact hI.s23
  case X => exact blk_below hI.X hb
  case B => exact hI.B.trans (hb.mono hI.B.size)
  case w9 => rw [e9, e6]; exact hI.w9
  case w10 => rw [e10, e7]; exact hI.w10
  case w11 => intro _; exact e8
  case b3 => rw [e6, e9]; exact fun h => (hI.b3 h).below hb
  case b4 => rw [e7, e10]; exact fun h => (hI.b4 h).below hb
  case b5 => rw [e8, e11, hx]; intro _; exact own_new hI.B hI.X
  case d34 => rw [e6, e7]; exact hI.d34
  case d35 => rw [e6, e8]; intro h _; exact (hI.b3 h).fresh
  case d45 => rw [e7, e8]; intro h _; exact (hI.b4 h).fresh
/-- A version stored into a block. -/
def put29 (w : World) (n : Nat) (y : S29) : World := ((((w.setCell ⟨n, 0, none⟩ (.int .u64 y.f0)).setCell ⟨n, 1, none⟩ (.int .u64 y.f1)).setCell ⟨n, 2, none⟩ (.int .u64 y.f2)).setCell ⟨n, 3, none⟩ (.string y.f3)).setCell ⟨n, 4, none⟩ (.string y.f4)
theorem put29_at {w : World} {n : Nat} {y z : S29} (h : w.heap[n]? = some (V29 z)) : (put29 w n y).heap[n]? = some (V29 y) :=
  blk_set (blk_set (blk_set (blk_set (blk_set h 0 _) 1 _) 2 _) 3 _) 4 _
theorem put29_far {w : World} {n m : Nat} {y : S29} {o : Obj} (h : w.heap[m]? = some o) (hn : m ≠ n) : (put29 w n y).heap[m]? = some o := by
  unfold put29
  rw [Below.heap_setCell _ _ _ _ (by simpa using hn), Below.heap_setCell _ _ _ _ (by simpa using hn), Below.heap_setCell _ _ _ _ (by simpa using hn), Below.heap_setCell _ _ _ _ (by simpa using hn), Below.heap_setCell _ _ _ _ (by simpa using hn)]
  exact h
theorem put29_below {w w1 : World} {n : Nat} {y : S29} (hB : Below w.heap.size w w1) (hn : w.heap.size ≤ n) : Below w.heap.size w (put29 w1 n y) :=
  ((((hB.setCell hn _).setCell hn _).setCell hn _).setCell hn _).setCell hn _
theorem Own.put {w w1 : World} {v : Value} {n : Nat} {y z : S29} (h : Own w w1 v z) (hn : v ≠ .pointer (some ⟨n, 0, none⟩)) : Own w (put29 w1 n y) v z := by
  obtain ⟨m, rfl, h2, h3⟩ := h
  exact ⟨m, rfl, h2, put29_far h3 (fun e => hn (by rw [e]))⟩
theorem In5.op9 {w w' : World} {x y z u : S29} {l : Array Bool} {v3 v4 v5 v18 v19 v20 v21 v22 v23 : Value} (hl : l.size = 12) (hI : In5 w x y z u l v3 v4 v5 v18 v19 v20 v21 v22 v23 w') (hf : RegI.on l 9 = false) (n : Nat) (hn : w.heap.size < n) (h6 : RegI.on l 6 = true) (hv : v3 = .pointer (some ⟨n, 0, none⟩)) : In5 w x y z u (l.setIfInBounds 9 true) v3 v4 v5 v18 v19 v20 v21 v22 v23 (put29 w' n y) := by
  have e0 : RegI.on (l.setIfInBounds 9 true) 0 = RegI.on l 0 := by rw [RegI.on_set (by omega)]; rfl
  have e1 : RegI.on (l.setIfInBounds 9 true) 1 = RegI.on l 1 := by rw [RegI.on_set (by omega)]; rfl
  have e2 : RegI.on (l.setIfInBounds 9 true) 2 = RegI.on l 2 := by rw [RegI.on_set (by omega)]; rfl
  have e3 : RegI.on (l.setIfInBounds 9 true) 3 = RegI.on l 3 := by rw [RegI.on_set (by omega)]; rfl
  have e4 : RegI.on (l.setIfInBounds 9 true) 4 = RegI.on l 4 := by rw [RegI.on_set (by omega)]; rfl
  have e5 : RegI.on (l.setIfInBounds 9 true) 5 = RegI.on l 5 := by rw [RegI.on_set (by omega)]; rfl
  have e6 : RegI.on (l.setIfInBounds 9 true) 6 = RegI.on l 6 := by rw [RegI.on_set (by omega)]; rfl
  have e7 : RegI.on (l.setIfInBounds 9 true) 7 = RegI.on l 7 := by rw [RegI.on_set (by omega)]; rfl
  have e8 : RegI.on (l.setIfInBounds 9 true) 8 = RegI.on l 8 := by rw [RegI.on_set (by omega)]; rfl
  have e9 : RegI.on (l.setIfInBounds 9 true) 9 = true := by rw [RegI.on_set (by omega)]; rfl
  have e10 : RegI.on (l.setIfInBounds 9 true) 10 = RegI.on l 10 := by rw [RegI.on_set (by omega)]; rfl
  have e11 : RegI.on (l.setIfInBounds 9 true) 11 = RegI.on l 11 := by rw [RegI.on_set (by omega)]; rfl
  have hx : Own w w' v3 z29 := by have := hI.b3 h6; rw [hf] at this; exact this
  refine ⟨?s18, ?s19, ?s20, ?s21, ?s22, ?s23, ?X, ?B, ?w9, ?w10, ?w11, ?b3, ?b4, ?b5, ?d34, ?d35, ?d45⟩
  case s18 => rw [e0]; exact hI.s18
  case s19 => rw [e1]; exact hI.s19
  case s20 => rw [e2]; exact hI.s20
  case s21 => rw [e3]; exact hI.s21
  case s22 => rw [e4]; exact hI.s22
  case s23 => rw [e5]; exact hI.s23
  case X => exact put29_far hI.X (Nat.ne_of_lt hn)
  case B => exact put29_below hI.B (Nat.le_of_lt hn)
  case w9 => intro _; rw [e6]; exact h6
  case w10 => rw [e10, e7]; exact hI.w10
  case w11 => rw [e11, e8]; exact hI.w11
  case b3 => rw [e9]; intro _; obtain ⟨m, hm, h2, h3⟩ := hx; rw [hv] at hm; cases hm; exact ⟨n, hv, hn, put29_at h3⟩
  case b4 => rw [e7, e10]; exact fun h => (hI.b4 h).put (hv ▸ (hI.d34 h6 h).symm)
  case b5 => rw [e8, e11]; exact fun h => (hI.b5 h).put (hv ▸ (hI.d35 h6 h).symm)
  case d34 => rw [e6, e7]; exact hI.d34
  case d35 => rw [e6, e8]; exact hI.d35
  case d45 => rw [e7, e8]; exact hI.d45
theorem In5.op10 {w w' : World} {x y z u : S29} {l : Array Bool} {v3 v4 v5 v18 v19 v20 v21 v22 v23 : Value} (hl : l.size = 12) (hI : In5 w x y z u l v3 v4 v5 v18 v19 v20 v21 v22 v23 w') (hf : RegI.on l 10 = false) (n : Nat) (hn : w.heap.size < n) (h6 : RegI.on l 7 = true) (hv : v4 = .pointer (some ⟨n, 0, none⟩)) : In5 w x y z u (l.setIfInBounds 10 true) v3 v4 v5 v18 v19 v20 v21 v22 v23 (put29 w' n z) := by
  have e0 : RegI.on (l.setIfInBounds 10 true) 0 = RegI.on l 0 := by rw [RegI.on_set (by omega)]; rfl
  have e1 : RegI.on (l.setIfInBounds 10 true) 1 = RegI.on l 1 := by rw [RegI.on_set (by omega)]; rfl
  have e2 : RegI.on (l.setIfInBounds 10 true) 2 = RegI.on l 2 := by rw [RegI.on_set (by omega)]; rfl
  have e3 : RegI.on (l.setIfInBounds 10 true) 3 = RegI.on l 3 := by rw [RegI.on_set (by omega)]; rfl
  have e4 : RegI.on (l.setIfInBounds 10 true) 4 = RegI.on l 4 := by rw [RegI.on_set (by omega)]; rfl
  have e5 : RegI.on (l.setIfInBounds 10 true) 5 = RegI.on l 5 := by rw [RegI.on_set (by omega)]; rfl
  have e6 : RegI.on (l.setIfInBounds 10 true) 6 = RegI.on l 6 := by rw [RegI.on_set (by omega)]; rfl
  have e7 : RegI.on (l.setIfInBounds 10 true) 7 = RegI.on l 7 := by rw [RegI.on_set (by omega)]; rfl
  have e8 : RegI.on (l.setIfInBounds 10 true) 8 = RegI.on l 8 := by rw [RegI.on_set (by omega)]; rfl
  have e9 : RegI.on (l.setIfInBounds 10 true) 9 = RegI.on l 9 := by rw [RegI.on_set (by omega)]; rfl
  have e10 : RegI.on (l.setIfInBounds 10 true) 10 = true := by rw [RegI.on_set (by omega)]; rfl
  have e11 : RegI.on (l.setIfInBounds 10 true) 11 = RegI.on l 11 := by rw [RegI.on_set (by omega)]; rfl
  have hx : Own w w' v4 z29 := by have := hI.b4 h6; rw [hf] at this; exact this
  refine ⟨?s18, ?s19, ?s20, ?s21, ?s22, ?s23, ?X, ?B, ?w9, ?w10, ?w11, ?b3, ?b4, ?b5, ?d34, ?d35, ?d45⟩
  case s18 => rw [e0]; exact hI.s18
  case s19 => rw [e1]; exact hI.s19
  case s20 => rw [e2]; exact hI.s20
  case s21 => rw [e3]; exact hI.s21
  case s22 => rw [e4]; exact hI.s22
  case s23 => rw [e5]; exact hI.s23
  case X => exact put29_far hI.X (Nat.ne_of_lt hn)
  case B => exact put29_below hI.B (Nat.le_of_lt hn)
  case w9 => rw [e9, e6]; exact hI.w9
  case w10 => intro _; rw [e7]; exact h6
  case w11 => rw [e11, e8]; exact hI.w11
  case b3 => rw [e6, e9]; exact fun h => (hI.b3 h).put (hv ▸ (hI.d34 h h6))
  case b4 => rw [e10]; intro _; obtain ⟨m, hm, h2, h3⟩ := hx; rw [hv] at hm; cases hm; exact ⟨n, hv, hn, put29_at h3⟩
  case b5 => rw [e8, e11]; exact fun h => (hI.b5 h).put (hv ▸ (hI.d45 h6 h).symm)
  case d34 => rw [e6, e7]; exact hI.d34
  case d35 => rw [e6, e8]; exact hI.d35
  case d45 => rw [e7, e8]; exact hI.d45
theorem In5.op11 {w w' : World} {x y z u : S29} {l : Array Bool} {v3 v4 v5 v18 v19 v20 v21 v22 v23 : Value} (hl : l.size = 12) (hI : In5 w x y z u l v3 v4 v5 v18 v19 v20 v21 v22 v23 w') (hf : RegI.on l 11 = false) (n : Nat) (hn : w.heap.size < n) (h6 : RegI.on l 8 = true) (hv : v5 = .pointer (some ⟨n, 0, none⟩)) : In5 w x y z u (l.setIfInBounds 11 true) v3 v4 v5 v18 v19 v20 v21 v22 v23 (put29 w' n u) := by
  have e0 : RegI.on (l.setIfInBounds 11 true) 0 = RegI.on l 0 := by rw [RegI.on_set (by omega)]; rfl
  have e1 : RegI.on (l.setIfInBounds 11 true) 1 = RegI.on l 1 := by rw [RegI.on_set (by omega)]; rfl
  have e2 : RegI.on (l.setIfInBounds 11 true) 2 = RegI.on l 2 := by rw [RegI.on_set (by omega)]; rfl
  have e3 : RegI.on (l.setIfInBounds 11 true) 3 = RegI.on l 3 := by rw [RegI.on_set (by omega)]; rfl
  have e4 : RegI.on (l.setIfInBounds 11 true) 4 = RegI.on l 4 := by rw [RegI.on_set (by omega)]; rfl
  have e5 : RegI.on (l.setIfInBounds 11 true) 5 = RegI.on l 5 := by rw [RegI.on_set (by omega)]; rfl
  have e6 : RegI.on (l.setIfInBounds 11 true) 6 = RegI.on l 6 := by rw [RegI.on_set (by omega)]; rfl
  have e7 : RegI.on (l.setIfInBounds 11 true) 7 = RegI.on l 7 := by rw [RegI.on_set (by omega)]; rfl
  have e8 : RegI.on (l.setIfInBounds 11 true) 8 = RegI.on l 8 := by rw [RegI.on_set (by omega)]; rfl
  have e9 : RegI.on (l.setIfInBounds 11 true) 9 = RegI.on l 9 := by rw [RegI.on_set (by omega)]; rfl
  have e10 : RegI.on (l.setIfInBounds 11 true) 10 = RegI.on l 10 := by rw [RegI.on_set (by omega)]; rfl
  have e11 : RegI.on (l.setIfInBounds 11 true) 11 = true := by rw [RegI.on_set (by omega)]; rfl
  have hx : Own w w' v5 z29 := by have := hI.b5 h6; rw [hf] at this; exact this
  refine ⟨?s18, ?s19, ?s20, ?s21, ?s22, ?s23, ?X, ?B, ?w9, ?w10, ?w11, ?b3, ?b4, ?b5, ?d34, ?d35, ?d45⟩
  case s18 => rw [e0]; exact hI.s18
  case s19 => rw [e1]; exact hI.s19
  case s20 => rw [e2]; exact hI.s20
  case s21 => rw [e3]; exact hI.s21
  case s22 => rw [e4]; exact hI.s22
  case s23 => rw [e5]; exact hI.s23
  case X => exact put29_far hI.X (Nat.ne_of_lt hn)
  case B => exact put29_below hI.B (Nat.le_of_lt hn)
  case w9 => rw [e9, e6]; exact hI.w9
  case w10 => rw [e10, e7]; exact hI.w10
  case w11 => intro _; rw [e8]; exact h6
  case b3 => rw [e6, e9]; exact fun h => (hI.b3 h).put (hv ▸ (hI.d35 h h6))
  case b4 => rw [e7, e10]; exact fun h => (hI.b4 h).put (hv ▸ (hI.d45 h h6))
  case b5 => rw [e11]; intro _; obtain ⟨m, hm, h2, h3⟩ := hx; rw [hv] at hm; cases hm; exact ⟨n, hv, hn, put29_at h3⟩
  case d34 => rw [e6, e7]; exact hI.d34
  case d35 => rw [e6, e8]; exact hI.d35
  case d45 => rw [e7, e8]; exact hI.d45
set_option maxHeartbeats 8000000 in
set_option maxRecDepth 100000 in
theorem walk_good (x y z u : S29) (k : Nat) (w : World) (hz : MT.laws_zzFits14.f x.f0 x.f1 x.f2 x.f3 x.f4 = some true) (hg : MT.laws_svGood.f k [x] = some true) (hp : spec_Plain.f k x.f0 x.f1 x.f2 x.f3 x.f4 = some true) (hi : HandS.VersionIncPatch.f x.f0 x.f1 x.f2 x.f3 x.f4 = some (y.f0, y.f1, y.f2, y.f3, y.f4)) (hj : HandS.VersionIncMinor.f x.f0 x.f1 x.f2 x.f3 x.f4 = some (z.f0, z.f1, z.f2, z.f3, z.f4)) (hk : HandS.VersionIncMajor.f x.f0 x.f1 x.f2 x.f3 x.f4 = some (u.f0, u.f1, u.f2, u.f3, u.f4)) (h1 : HandS.VersionLessI.f x.f0 x.f1 x.f2 x.f3 x.f4 y.f0 y.f1 y.f2 y.f3 y.f4 = some true) (h2 : HandS.VersionLessI.f y.f0 y.f1 y.f2 y.f3 y.f4 z.f0 z.f1 z.f2 z.f3 z.f4 = some true) (h3 : HandS.VersionLessI.f z.f0 z.f1 z.f2 z.f3 z.f4 u.f0 u.f1 u.f2 u.f3 u.f4 = some true) (hG0 : HandS.GlI w):
    Calls Tryd.prog 14 #[.agg #[.int .u64 x.f0, .int .u64 x.f1, .int .u64 x.f2, .string x.f3, .string x.f4]] w fun e w' => e = .returned (.bool true) ∧ Below w.heap.size w w' := by
  have HZ := Aside0.mk hz
  have HG := Aside0.mk hg
  have BASE := Aside0.mk ((Below.refl _ w).alloc (Nat.le_refl _) (.cells #[.int .u64 x.f0, .int .u64 x.f1, .int .u64 x.f2, .string x.f3, .string x.f4] 29))
  have HR := Aside0.mk (heap_at (w := w) (V29 x))
  unfold V29 at HR
  have HP := Aside0.mk hp
  have HI := Aside0.mk hi
  have HJ := Aside0.mk hj
  have HK := Aside0.mk hk
  have L1 := Aside0.mk h1
  have L2 := Aside0.mk h2
  have L3 := Aside0.mk h3
  have HGL := Aside0.mk hG0
  clear hz hg hp hi hj hk h1 h2 h3 hG0
  go_enter Tryd.func14, Tryd.ntmps14
  go_wp2_with (first | (go_at_call 25; (with_reducible refine (MT.laws_zzFits14.calls _ _ _ _ _ true _ HZ.out).mono ?_); rintro e w1 ⟨rfl, hb1⟩; have HB := Aside0.mk (BASE.out.trans (hb1.mono (by simp))); have HR1 := Aside0.mk (blk_below HR.out hb1); clear hb1; have c0 : w1.cell? ⟨w.heap.size, 0, none⟩ = some (.int .u64 x.f0) := (blk_cell HR1.out 0).trans rfl; have c1 : w1.cell? ⟨w.heap.size, 1, none⟩ = some (.int .u64 x.f1) := (blk_cell HR1.out 1).trans rfl; have c2 : w1.cell? ⟨w.heap.size, 2, none⟩ = some (.int .u64 x.f2) := (blk_cell HR1.out 2).trans rfl; have c3 : w1.cell? ⟨w.heap.size, 3, none⟩ = some (.string x.f3) := (blk_cell HR1.out 3).trans rfl; have c4 : w1.cell? ⟨w.heap.size, 4, none⟩ = some (.string x.f4) := (blk_cell HR1.out 4).trans rfl) | (go_at_call 26; (with_reducible refine (svGood_one k x true _ HG.out).mono ?_); rintro e w2 ⟨rfl, hb2⟩; have HB2 := Aside0.mk ((HB.out.alloc HB.out.size _).trans (hb2.mono (by have := HB.out.size; simp; omega))); have HR2 := Aside0.mk (blk_below (heap_alloc HR1.out) hb2); clear hb2 HB HR1; clear c0 c1 c2 c3 c4; have d0 : w2.cell? ⟨w.heap.size, 0, none⟩ = some (.int .u64 x.f0) := (blk_cell HR2.out 0).trans rfl; have d1 : w2.cell? ⟨w.heap.size, 1, none⟩ = some (.int .u64 x.f1) := (blk_cell HR2.out 1).trans rfl; have d2 : w2.cell? ⟨w.heap.size, 2, none⟩ = some (.int .u64 x.f2) := (blk_cell HR2.out 2).trans rfl; have d3 : w2.cell? ⟨w.heap.size, 3, none⟩ = some (.string x.f3) := (blk_cell HR2.out 3).trans rfl; have d4 : w2.cell? ⟨w.heap.size, 4, none⟩ = some (.string x.f4) := (blk_cell HR2.out 4).trans rfl) | (go_at_call 56; (with_reducible refine (spec_Plain.calls k _ _ _ _ _ true _ HP.out).mono ?_); rintro e w3 ⟨rfl, hb3⟩; have HBA3 := Aside0.mk (HB2.out.trans (hb3.mono HB2.out.size)); have HRA3 := Aside0.mk (blk_below HR2.out hb3); clear hb3 HB2 HR2; clear d0 d1 d2 d3 d4; have e0 : w3.cell? ⟨w.heap.size, 0, none⟩ = some (.int .u64 x.f0) := (blk_cell HRA3.out 0).trans rfl; have e1 : w3.cell? ⟨w.heap.size, 1, none⟩ = some (.int .u64 x.f1) := (blk_cell HRA3.out 1).trans rfl; have e2 : w3.cell? ⟨w.heap.size, 2, none⟩ = some (.int .u64 x.f2) := (blk_cell HRA3.out 2).trans rfl; have e3 : w3.cell? ⟨w.heap.size, 3, none⟩ = some (.string x.f3) := (blk_cell HRA3.out 3).trans rfl; have e4 : w3.cell? ⟨w.heap.size, 4, none⟩ = some (.string x.f4) := (blk_cell HRA3.out 4).trans rfl) | (go_at_call 57; (with_reducible refine (HandS.VersionIncPatch.calls x.f0 x.f1 x.f2 x.f3 x.f4 y.f0 y.f1 y.f2 y.f3 y.f4 _ (HGL.out.below (KB.mk HBA3.out).out) HI.out).mono ?_); rintro e w4 ⟨rfl, hb4⟩; have HBA4 := Aside0.mk (HBA3.out.trans (hb4.mono HBA3.out.size)); have HRA4 := Aside0.mk (blk_below HRA3.out hb4); clear hb4 HBA3 HRA3; clear e0 e1 e2 e3 e4; have f0 : w4.cell? ⟨w.heap.size, 0, none⟩ = some (.int .u64 x.f0) := (blk_cell HRA4.out 0).trans rfl; have f1 : w4.cell? ⟨w.heap.size, 1, none⟩ = some (.int .u64 x.f1) := (blk_cell HRA4.out 1).trans rfl; have f2 : w4.cell? ⟨w.heap.size, 2, none⟩ = some (.int .u64 x.f2) := (blk_cell HRA4.out 2).trans rfl; have f3 : w4.cell? ⟨w.heap.size, 3, none⟩ = some (.string x.f3) := (blk_cell HRA4.out 3).trans rfl; have f4 : w4.cell? ⟨w.heap.size, 4, none⟩ = some (.string x.f4) := (blk_cell HRA4.out 4).trans rfl) | (go_at_call 58; (with_reducible refine (HandS.VersionIncMinor.calls x.f0 x.f1 x.f2 x.f3 x.f4 z.f0 z.f1 z.f2 z.f3 z.f4 _ (HGL.out.below (KB.mk HBA4.out).out) HJ.out).mono ?_); rintro e w5 ⟨rfl, hb5⟩; have HBA5 := Aside0.mk (HBA4.out.trans (hb5.mono HBA4.out.size)); have HRA5 := Aside0.mk (blk_below HRA4.out hb5); clear hb5 HBA4 HRA4; clear f0 f1 f2 f3 f4; have g0 : w5.cell? ⟨w.heap.size, 0, none⟩ = some (.int .u64 x.f0) := (blk_cell HRA5.out 0).trans rfl; have g1 : w5.cell? ⟨w.heap.size, 1, none⟩ = some (.int .u64 x.f1) := (blk_cell HRA5.out 1).trans rfl; have g2 : w5.cell? ⟨w.heap.size, 2, none⟩ = some (.int .u64 x.f2) := (blk_cell HRA5.out 2).trans rfl; have g3 : w5.cell? ⟨w.heap.size, 3, none⟩ = some (.string x.f3) := (blk_cell HRA5.out 3).trans rfl; have g4 : w5.cell? ⟨w.heap.size, 4, none⟩ = some (.string x.f4) := (blk_cell HRA5.out 4).trans rfl) | (go_at_call 59; (with_reducible refine (HandS.VersionIncMajor.calls x.f0 x.f1 x.f2 x.f3 x.f4 u.f0 u.f1 u.f2 u.f3 u.f4 _ (HGL.out.below (KB.mk HBA5.out).out) HK.out).mono ?_); rintro e w6 ⟨rfl, hb6⟩; have HBA6 := Aside0.mk (HBA5.out.trans (hb6.mono HBA5.out.size)); have HRA6 := Aside0.mk (blk_below HRA5.out hb6); clear hb6 HBA5 HRA5; clear g0 g1 g2 g3 g4; have h0 : w6.cell? ⟨w.heap.size, 0, none⟩ = some (.int .u64 x.f0) := (blk_cell HRA6.out 0).trans rfl; have h1 : w6.cell? ⟨w.heap.size, 1, none⟩ = some (.int .u64 x.f1) := (blk_cell HRA6.out 1).trans rfl; have h2 : w6.cell? ⟨w.heap.size, 2, none⟩ = some (.int .u64 x.f2) := (blk_cell HRA6.out 2).trans rfl; have h3 : w6.cell? ⟨w.heap.size, 3, none⟩ = some (.string x.f3) := (blk_cell HRA6.out 3).trans rfl; have h4 : w6.cell? ⟨w.heap.size, 4, none⟩ = some (.string x.f4) := (blk_cell HRA6.out 4).trans rfl))
  clear e0 e1 e2 e3 e4
  refine RegI.region_inv (I := fun l a w' => ∃ v3 v4 v5 v18 v19 v20 v21 v22 v23 : Value, a = fr w.heap.size x (.slice (some ⟨w1.heap.size, 0, none⟩) 1 1) v3 v4 v5 v18 v19 v20 v21 v22 v23 ∧ In5 w x y z u l v3 v4 v5 v18 v19 v20 v21 v22 v23 w') (by kernel_rfl) (by kernel_rfl) ?hs ?he ?h0
  case hs =>
    rintro l a w' i o hl ⟨v3, v4, v5, v18, v19, v20, v21, v22, v23, rfl, hI⟩ ho hf hw K hK
    have hl' : l.size = 12 := hl
    have hi : i < 12 := (Array.getElem?_eq_some_iff.1 ho).1
    have hc : i = 0 ∨ i = 1 ∨ i = 2 ∨ i = 3 ∨ i = 4 ∨ i = 5 ∨ i = 6 ∨ i = 7 ∨ i = 8 ∨ i = 9 ∨ i = 10 ∨ i = 11 := by omega
    rcases hc with rfl | rfl | rfl | rfl | rfl | rfl | rfl | rfl | rfl | rfl | rfl | rfl
    all_goals simp only [List.getElem?_toArray, List.getElem?_cons_zero, List.getElem?_cons_succ, Option.some.injEq] at ho; subst ho
    · have hX : w'.heap[w.heap.size]? = some (.cells #[.int .u64 x.f0, .int .u64 x.f1, .int .u64 x.f2, .string x.f3, .string x.f4] 29 (0, 0)) := hI.X
      have c0 : w'.cell? ⟨w.heap.size, 0, none⟩ = some (.int .u64 x.f0) := (blk_cell hX 0).trans rfl
      have c1 : w'.cell? ⟨w.heap.size, 1, none⟩ = some (.int .u64 x.f1) := (blk_cell hX 1).trans rfl
      have c2 : w'.cell? ⟨w.heap.size, 2, none⟩ = some (.int .u64 x.f2) := (blk_cell hX 2).trans rfl
      have c3 : w'.cell? ⟨w.heap.size, 3, none⟩ = some (.string x.f3) := (blk_cell hX 3).trans rfl
      have c4 : w'.cell? ⟨w.heap.size, 4, none⟩ = some (.string x.f4) := (blk_cell hX 4).trans rfl
      refine event_step (v := (.agg #[.int .u64 x.f0, .int .u64 x.f1, .int .u64 x.f2, .string x.f3, .string x.f4])) (w1 := w') rfl ?_ (hK _ _ ⟨v3, v4, v5, _, v19, v20, v21, v22, v23, rfl,  hI.op0 hl' hf⟩)
      clear hK
      unfold fr
      go_simp
    · obtain rfl := hI.s18 (hw 0 rfl)
      refine goes_ Tryd.func57 (by kernel_rfl) rfl #[(.agg #[.int .u64 x.f0, .int .u64 x.f1, .int .u64 x.f2, .string x.f3, .string x.f4])] (by rfl) rfl rfl (by first | rfl | (simp only [List.map_toArray, List.map_cons, List.map_nil]; rfl)) ?_
      refine (HandS.VersionIncPatch.calls x.f0 x.f1 x.f2 x.f3 x.f4 y.f0 y.f1 y.f2 y.f3 y.f4 _ (HGL.out.below hI.B) HI.out).mono ?_
      rintro e w9 ⟨rfl, hb⟩
      exact ⟨_, rfl, hK _ _ ⟨v3, v4, v5, _, _, v20, v21, v22, v23, rfl,  hI.op1 hl' hf hb⟩⟩
    · have hX : w'.heap[w.heap.size]? = some (.cells #[.int .u64 x.f0, .int .u64 x.f1, .int .u64 x.f2, .string x.f3, .string x.f4] 29 (0, 0)) := hI.X
      have c0 : w'.cell? ⟨w.heap.size, 0, none⟩ = some (.int .u64 x.f0) := (blk_cell hX 0).trans rfl
      have c1 : w'.cell? ⟨w.heap.size, 1, none⟩ = some (.int .u64 x.f1) := (blk_cell hX 1).trans rfl
      have c2 : w'.cell? ⟨w.heap.size, 2, none⟩ = some (.int .u64 x.f2) := (blk_cell hX 2).trans rfl
      have c3 : w'.cell? ⟨w.heap.size, 3, none⟩ = some (.string x.f3) := (blk_cell hX 3).trans rfl
      have c4 : w'.cell? ⟨w.heap.size, 4, none⟩ = some (.string x.f4) := (blk_cell hX 4).trans rfl
      refine event_step (v := (.agg #[.int .u64 x.f0, .int .u64 x.f1, .int .u64 x.f2, .string x.f3, .string x.f4])) (w1 := w') rfl ?_ (hK _ _ ⟨v3, v4, v5, v18, v19, _, v21, v22, v23, rfl,  hI.op2 hl' hf⟩)
      clear hK
      unfold fr
      go_simp
    · obtain rfl := hI.s20 (hw 2 rfl)
      refine goes_ Tryd.func58 (by kernel_rfl) rfl #[(.agg #[.int .u64 x.f0, .int .u64 x.f1, .int .u64 x.f2, .string x.f3, .string x.f4])] (by rfl) rfl rfl (by first | rfl | (simp only [List.map_toArray, List.map_cons, List.map_nil]; rfl)) ?_
      refine (HandS.VersionIncMinor.calls x.f0 x.f1 x.f2 x.f3 x.f4 z.f0 z.f1 z.f2 z.f3 z.f4 _ (HGL.out.below hI.B) HJ.out).mono ?_
      rintro e w9 ⟨rfl, hb⟩
      exact ⟨_, rfl, hK _ _ ⟨v3, v4, v5, v18, v19, _, _, v22, v23, rfl,  hI.op3 hl' hf hb⟩⟩
    · have hX : w'.heap[w.heap.size]? = some (.cells #[.int .u64 x.f0, .int .u64 x.f1, .int .u64 x.f2, .string x.f3, .string x.f4] 29 (0, 0)) := hI.X
      have c0 : w'.cell? ⟨w.heap.size, 0, none⟩ = some (.int .u64 x.f0) := (blk_cell hX 0).trans rfl
      have c1 : w'.cell? ⟨w.heap.size, 1, none⟩ = some (.int .u64 x.f1) := (blk_cell hX 1).trans rfl
      have c2 : w'.cell? ⟨w.heap.size, 2, none⟩ = some (.int .u64 x.f2) := (blk_cell hX 2).trans rfl
      have c3 : w'.cell? ⟨w.heap.size, 3, none⟩ = some (.string x.f3) := (blk_cell hX 3).trans rfl
      have c4 : w'.cell? ⟨w.heap.size, 4, none⟩ = some (.string x.f4) := (blk_cell hX 4).trans rfl
      refine event_step (v := (.agg #[.int .u64 x.f0, .int .u64 x.f1, .int .u64 x.f2, .string x.f3, .string x.f4])) (w1 := w') rfl ?_ (hK _ _ ⟨v3, v4, v5, v18, v19, v20, v21, _, v23, rfl,  hI.op4 hl' hf⟩)
      clear hK
      unfold fr
      go_simp
    · obtain rfl := hI.s22 (hw 4 rfl)
      refine goes_ Tryd.func59 (by kernel_rfl) rfl #[(.agg #[.int .u64 x.f0, .int .u64 x.f1, .int .u64 x.f2, .string x.f3, .string x.f4])] (by rfl) rfl rfl (by first | rfl | (simp only [List.map_toArray, List.map_cons, List.map_nil]; rfl)) ?_
      refine (HandS.VersionIncMajor.calls x.f0 x.f1 x.f2 x.f3 x.f4 u.f0 u.f1 u.f2 u.f3 u.f4 _ (HGL.out.below hI.B) HK.out).mono ?_
      rintro e w9 ⟨rfl, hb⟩
      exact ⟨_, rfl, hK _ _ ⟨v3, v4, v5, v18, v19, v20, v21, _, _, rfl,  hI.op5 hl' hf hb⟩⟩
    · refine event_step (v := .pointer (some ⟨w'.heap.size, 0, none⟩)) (w1 := w'.alloc (V29 z29)) rfl ?_ (hK _ _ ⟨_, v4, v5, v18, v19, v20, v21, v22, v23, rfl,  hI.op6 hl' hf⟩)
      clear hK
      unfold fr V29 z29
      go_simp
    · refine event_step (v := .pointer (some ⟨w'.heap.size, 0, none⟩)) (w1 := w'.alloc (V29 z29)) rfl ?_ (hK _ _ ⟨v3, _, v5, v18, v19, v20, v21, v22, v23, rfl,  hI.op7 hl' hf⟩)
      clear hK
      unfold fr V29 z29
      go_simp
    · refine event_step (v := .pointer (some ⟨w'.heap.size, 0, none⟩)) (w1 := w'.alloc (V29 z29)) rfl ?_ (hK _ _ ⟨v3, v4, _, v18, v19, v20, v21, v22, v23, rfl,  hI.op8 hl' hf⟩)
      clear hK
      unfold fr V29 z29
      go_simp
    · have h6 := hw 6 rfl
      obtain ⟨n, hv, hn, hk⟩ := hI.b3 h6
      obtain rfl := hI.s19 (hw 1 rfl)
      rw [hf] at hk
      have hZ : w'.heap[n]? = some (.cells #[.int .u64 0, .int .u64 0, .int .u64 0, .string ⟨#[]⟩, .string ⟨#[]⟩] 29 (0, 0)) := hk
      have c0 : w'.cell? ⟨n, 0, none⟩ = some (.int .u64 0) := (blk_cell hZ 0).trans rfl
      have f0 := blk_frozen hZ 0
      have c1 : w'.cell? ⟨n, 1, none⟩ = some (.int .u64 0) := (blk_cell hZ 1).trans rfl
      have f1 := blk_frozen hZ 1
      have c2 : w'.cell? ⟨n, 2, none⟩ = some (.int .u64 0) := (blk_cell hZ 2).trans rfl
      have f2 := blk_frozen hZ 2
      have c3 : w'.cell? ⟨n, 3, none⟩ = some (.string ⟨#[]⟩) := (blk_cell hZ 3).trans rfl
      have f3 := blk_frozen hZ 3
      have c4 : w'.cell? ⟨n, 4, none⟩ = some (.string ⟨#[]⟩) := (blk_cell hZ 4).trans rfl
      have f4 := blk_frozen hZ 4
      have hst := hI.op9 hl' hf n hn h6 hv
      clear hk hZ
      subst hv
      refine skip_ (w1 := put29 w' n y) rfl rfl ?_ (hK _ _ ⟨_, v4, v5, v18, _, v20, v21, v22, v23, rfl,  hst⟩)
      clear hK hst hI
      unfold fr put29
      go_simp
    · have h6 := hw 7 rfl
      obtain ⟨n, hv, hn, hk⟩ := hI.b4 h6
      obtain rfl := hI.s21 (hw 3 rfl)
      rw [hf] at hk
      have hZ : w'.heap[n]? = some (.cells #[.int .u64 0, .int .u64 0, .int .u64 0, .string ⟨#[]⟩, .string ⟨#[]⟩] 29 (0, 0)) := hk
      have c0 : w'.cell? ⟨n, 0, none⟩ = some (.int .u64 0) := (blk_cell hZ 0).trans rfl
      have f0 := blk_frozen hZ 0
      have c1 : w'.cell? ⟨n, 1, none⟩ = some (.int .u64 0) := (blk_cell hZ 1).trans rfl
      have f1 := blk_frozen hZ 1
      have c2 : w'.cell? ⟨n, 2, none⟩ = some (.int .u64 0) := (blk_cell hZ 2).trans rfl
      have f2 := blk_frozen hZ 2
      have c3 : w'.cell? ⟨n, 3, none⟩ = some (.string ⟨#[]⟩) := (blk_cell hZ 3).trans rfl
      have f3 := blk_frozen hZ 3
      have c4 : w'.cell? ⟨n, 4, none⟩ = some (.string ⟨#[]⟩) := (blk_cell hZ 4).trans rfl
      have f4 := blk_frozen hZ 4
      have hst := hI.op10 hl' hf n hn h6 hv
      clear hk hZ
      subst hv
      refine skip_ (w1 := put29 w' n z) rfl rfl ?_ (hK _ _ ⟨v3, _, v5, v18, v19, v20, _, v22, v23, rfl,  hst⟩)
      clear hK hst hI
      unfold fr put29
      go_simp
    · have h6 := hw 8 rfl
      obtain ⟨n, hv, hn, hk⟩ := hI.b5 h6
      obtain rfl := hI.s23 (hw 5 rfl)
      rw [hf] at hk
      have hZ : w'.heap[n]? = some (.cells #[.int .u64 0, .int .u64 0, .int .u64 0, .string ⟨#[]⟩, .string ⟨#[]⟩] 29 (0, 0)) := hk
      have c0 : w'.cell? ⟨n, 0, none⟩ = some (.int .u64 0) := (blk_cell hZ 0).trans rfl
      have f0 := blk_frozen hZ 0
      have c1 : w'.cell? ⟨n, 1, none⟩ = some (.int .u64 0) := (blk_cell hZ 1).trans rfl
      have f1 := blk_frozen hZ 1
      have c2 : w'.cell? ⟨n, 2, none⟩ = some (.int .u64 0) := (blk_cell hZ 2).trans rfl
      have f2 := blk_frozen hZ 2
      have c3 : w'.cell? ⟨n, 3, none⟩ = some (.string ⟨#[]⟩) := (blk_cell hZ 3).trans rfl
      have f3 := blk_frozen hZ 3
      have c4 : w'.cell? ⟨n, 4, none⟩ = some (.string ⟨#[]⟩) := (blk_cell hZ 4).trans rfl
      have f4 := blk_frozen hZ 4
      have hst := hI.op11 hl' hf n hn h6 hv
      clear hk hZ
      subst hv
      refine skip_ (w1 := put29 w' n u) rfl rfl ?_ (hK _ _ ⟨v3, v4, _, v18, v19, v20, v21, v22, _, rfl,  hst⟩)
      clear hK hst hI
      unfold fr put29
      go_simp
  case h0 =>
    refine ⟨undef, undef, undef, undef, undef, undef, undef, undef, undef, rfl, ?_⟩
    exact ⟨(fun h => by rw [RegI.on_start] at h; cases h), (fun h => by rw [RegI.on_start] at h; cases h), (fun h => by rw [RegI.on_start] at h; cases h), (fun h => by rw [RegI.on_start] at h; cases h), (fun h => by rw [RegI.on_start] at h; cases h), (fun h => by rw [RegI.on_start] at h; cases h), HRA3.out, HBA3.out.drew, (fun h => by rw [RegI.on_start] at h; cases h), (fun h => by rw [RegI.on_start] at h; cases h), (fun h => by rw [RegI.on_start] at h; cases h), (fun h => by rw [RegI.on_start] at h; cases h), (fun h => by rw [RegI.on_start] at h; cases h), (fun h => by rw [RegI.on_start] at h; cases h), (fun h => by rw [RegI.on_start] at h; cases h), (fun h => by rw [RegI.on_start] at h; cases h), (fun h => by rw [RegI.on_start] at h; cases h)⟩
  case he =>
    rintro l a w7 hall ⟨v3, v4, v5, v18, v19, v20, v21, v22, v23, rfl, hI⟩
    have q : ∀ j, j < 12 → RegI.on l j = true := hall
    obtain rfl := hI.s18 (q 0 (by decide))
    obtain rfl := hI.s19 (q 1 (by decide))
    obtain rfl := hI.s20 (q 2 (by decide))
    obtain rfl := hI.s21 (q 3 (by decide))
    obtain rfl := hI.s22 (q 4 (by decide))
    obtain rfl := hI.s23 (q 5 (by decide))
    have b3 := hI.b3 (q 6 (by decide))
    have b4 := hI.b4 (q 7 (by decide))
    have b5 := hI.b5 (q 8 (by decide))
    rw [q 9 (by decide)] at b3
    rw [q 10 (by decide)] at b4
    rw [q 11 (by decide)] at b5
    obtain ⟨n3, rfl, g3, y3⟩ := b3
    obtain ⟨n4, rfl, g4, y4⟩ := b4
    obtain ⟨n5, rfl, g5, y5⟩ := b5
    have KX7 : Aside0 (w7.heap[w.heap.size]? = some (.cells #[.int .u64 x.f0, .int .u64 x.f1, .int .u64 x.f2, .string x.f3, .string x.f4] 29 (0, 0))) := Aside0.mk hI.X
    have KY7 : Aside0 (w7.heap[n3]? = some (.cells #[.int .u64 y.f0, .int .u64 y.f1, .int .u64 y.f2, .string y.f3, .string y.f4] 29 (0, 0))) := Aside0.mk y3
    have KZ7 : Aside0 (w7.heap[n4]? = some (.cells #[.int .u64 z.f0, .int .u64 z.f1, .int .u64 z.f2, .string z.f3, .string z.f4] 29 (0, 0))) := Aside0.mk y4
    have KU7 : Aside0 (w7.heap[n5]? = some (.cells #[.int .u64 u.f0, .int .u64 u.f1, .int .u64 u.f2, .string u.f3, .string u.f4] 29 (0, 0))) := Aside0.mk y5
    have HB7 := Aside0.mk hI.B
    clear hI q hall g3 g4 g5 y3 y4 y5
    have a0 : w7.cell? ⟨w.heap.size, 0, none⟩ = some (.int .u64 x.f0) := (blk_cell KX7.out 0).trans rfl
    have a1 : w7.cell? ⟨w.heap.size, 1, none⟩ = some (.int .u64 x.f1) := (blk_cell KX7.out 1).trans rfl
    have a2 : w7.cell? ⟨w.heap.size, 2, none⟩ = some (.int .u64 x.f2) := (blk_cell KX7.out 2).trans rfl
    have a3 : w7.cell? ⟨w.heap.size, 3, none⟩ = some (.string x.f3) := (blk_cell KX7.out 3).trans rfl
    have a4 : w7.cell? ⟨w.heap.size, 4, none⟩ = some (.string x.f4) := (blk_cell KX7.out 4).trans rfl
    have b0 : w7.cell? ⟨n3, 0, none⟩ = some (.int .u64 y.f0) := (blk_cell KY7.out 0).trans rfl
    have b1 : w7.cell? ⟨n3, 1, none⟩ = some (.int .u64 y.f1) := (blk_cell KY7.out 1).trans rfl
    have b2 : w7.cell? ⟨n3, 2, none⟩ = some (.int .u64 y.f2) := (blk_cell KY7.out 2).trans rfl
    have b3 : w7.cell? ⟨n3, 3, none⟩ = some (.string y.f3) := (blk_cell KY7.out 3).trans rfl
    have b4 : w7.cell? ⟨n3, 4, none⟩ = some (.string y.f4) := (blk_cell KY7.out 4).trans rfl
    unfold fr
    simp only [Exit.then]
    go_step
    go_wp2_with (first | (go_at_call 31; (with_reducible refine (HandS.VersionLessI.calls x.f0 x.f1 x.f2 x.f3 x.f4 y.f0 y.f1 y.f2 y.f3 y.f4 true _ (HGL.out.below HB7.out) L1.out).mono ?_); rintro e w8 ⟨rfl, hb8⟩; have HB8 := Aside0.mk (HB7.out.trans (hb8.mono HB7.out.size)); have KY8 := Aside0.mk (blk_below KY7.out hb8); have KZ8 := Aside0.mk (blk_below KZ7.out hb8); have KU8 := Aside0.mk (blk_below KU7.out hb8); clear hb8; clear KX7; clear KY7; clear KZ7; clear KU7; clear HB7; clear a0 a1 a2 a3 a4; clear b0 b1 b2 b3 b4; have c0 : w8.cell? ⟨n3, 0, none⟩ = some (.int .u64 y.f0) := (blk_cell KY8.out 0).trans rfl; have c1 : w8.cell? ⟨n3, 1, none⟩ = some (.int .u64 y.f1) := (blk_cell KY8.out 1).trans rfl; have c2 : w8.cell? ⟨n3, 2, none⟩ = some (.int .u64 y.f2) := (blk_cell KY8.out 2).trans rfl; have c3 : w8.cell? ⟨n3, 3, none⟩ = some (.string y.f3) := (blk_cell KY8.out 3).trans rfl; have c4 : w8.cell? ⟨n3, 4, none⟩ = some (.string y.f4) := (blk_cell KY8.out 4).trans rfl; have d0 : w8.cell? ⟨n4, 0, none⟩ = some (.int .u64 z.f0) := (blk_cell KZ8.out 0).trans rfl; have d1 : w8.cell? ⟨n4, 1, none⟩ = some (.int .u64 z.f1) := (blk_cell KZ8.out 1).trans rfl; have d2 : w8.cell? ⟨n4, 2, none⟩ = some (.int .u64 z.f2) := (blk_cell KZ8.out 2).trans rfl; have d3 : w8.cell? ⟨n4, 3, none⟩ = some (.string z.f3) := (blk_cell KZ8.out 3).trans rfl; have d4 : w8.cell? ⟨n4, 4, none⟩ = some (.string z.f4) := (blk_cell KZ8.out 4).trans rfl) | (go_at_call 31; (with_reducible refine (HandS.VersionLessI.calls y.f0 y.f1 y.f2 y.f3 y.f4 z.f0 z.f1 z.f2 z.f3 z.f4 true _ (HGL.out.below HB8.out) L2.out).mono ?_); rintro e w9 ⟨rfl, hb9⟩; have HB9 := Aside0.mk (HB8.out.trans (hb9.mono HB8.out.size)); have KZ9 := Aside0.mk (blk_below KZ8.out hb9); have KU9 := Aside0.mk (blk_below KU8.out hb9); clear hb9; clear KY8; clear KZ8; clear KU8; clear HB8; clear c0 c1 c2 c3 c4; clear d0 d1 d2 d3 d4; have e0 : w9.cell? ⟨n4, 0, none⟩ = some (.int .u64 z.f0) := (blk_cell KZ9.out 0).trans rfl; have e1 : w9.cell? ⟨n4, 1, none⟩ = some (.int .u64 z.f1) := (blk_cell KZ9.out 1).trans rfl; have e2 : w9.cell? ⟨n4, 2, none⟩ = some (.int .u64 z.f2) := (blk_cell KZ9.out 2).trans rfl; have e3 : w9.cell? ⟨n4, 3, none⟩ = some (.string z.f3) := (blk_cell KZ9.out 3).trans rfl; have e4 : w9.cell? ⟨n4, 4, none⟩ = some (.string z.f4) := (blk_cell KZ9.out 4).trans rfl; have g0 : w9.cell? ⟨n5, 0, none⟩ = some (.int .u64 u.f0) := (blk_cell KU9.out 0).trans rfl; have g1 : w9.cell? ⟨n5, 1, none⟩ = some (.int .u64 u.f1) := (blk_cell KU9.out 1).trans rfl; have g2 : w9.cell? ⟨n5, 2, none⟩ = some (.int .u64 u.f2) := (blk_cell KU9.out 2).trans rfl; have g3 : w9.cell? ⟨n5, 3, none⟩ = some (.string u.f3) := (blk_cell KU9.out 3).trans rfl; have g4 : w9.cell? ⟨n5, 4, none⟩ = some (.string u.f4) := (blk_cell KU9.out 4).trans rfl) | (go_at_call 31; (with_reducible refine (HandS.VersionLessI.calls z.f0 z.f1 z.f2 z.f3 z.f4 u.f0 u.f1 u.f2 u.f3 u.f4 true _ (HGL.out.below HB9.out) L3.out).mono ?_); rintro e w10 ⟨rfl, hb10⟩; have HB10 := Aside0.mk (HB9.out.trans (hb10.mono HB9.out.size)); clear hb10; clear KZ9; clear KU9; clear HB9; clear e0 e1 e2 e3 e4; clear g0 g1 g2 g3 g4))
    go_ret
    exact ⟨rfl, HB10.out⟩
theorem n64_of (n : Nat) (h : n < 18446744073709551616) : HandS.n64 (n : Int) := ⟨by omega, by omega⟩
theorem wf_u64' {n : Int} (h : (Lit.int .u64 n).wf = true) : ∃ m : Nat, n = m ∧ m < 18446744073709551616 := by
  unfold Lit.wf at h
  simp only [Bool.and_eq_true, decide_eq_true_eq] at h
  have h1 : 0 ≤ n := h.1
  have h2 : n ≤ 18446744073709551615 := h.2
  refine ⟨n.toNat, ?_, ?_⟩ <;> omega
theorem less_m (M m t : Int) (u : ByteArray) (t' : Int) (u' v v' : ByteArray) (h1 : u.size ≤ 65536) (h2 : u'.size ≤ 65536) : HandS.VersionLessI.f M m t u v M (m + 1) t' u' v' = some true := by
  unfold HandS.VersionLessI.f VersionLess.f cmpVer
  rw [if_pos ⟨by omega, by omega⟩, show seg M M = 0 by unfold seg; rw [if_neg (by omega), if_neg (by omega)], if_pos rfl, show seg m (m + 1) = -1 by unfold seg; rw [if_pos (by omega)], if_neg (by decide)]
  rfl
theorem less_M (M m t : Int) (u : ByteArray) (m' t' : Int) (u' v v' : ByteArray) (h1 : u.size ≤ 65536) (h2 : u'.size ≤ 65536) : HandS.VersionLessI.f M m t u v (M + 1) m' t' u' v' = some true := by
  unfold HandS.VersionLessI.f VersionLess.f cmpVer
  rw [if_pos ⟨by omega, by omega⟩, show seg M (M + 1) = -1 by unfold seg; rw [if_pos (by omega)], if_neg (by decide)]
  rfl
theorem less_t (M m t : Int) (u : ByteArray) (u' v v' : ByteArray) (h1 : u.size ≤ 65536) (h2 : u'.size ≤ 65536) : HandS.VersionLessI.f M m t u v M m (t + 1) u' v' = some true := by
  unfold HandS.VersionLessI.f VersionLess.f cmpVer
  rw [if_pos ⟨by omega, by omega⟩, show seg M M = 0 by unfold seg; rw [if_neg (by omega), if_neg (by omega)], if_pos rfl, show seg m m = 0 by unfold seg; rw [if_neg (by omega), if_neg (by omega)], if_pos rfl, show seg t (t + 1) = -1 by unfold seg; rw [if_pos (by omega)], if_neg (by decide)]
  rfl
theorem less_p (M m t : Int) (u : ByteArray) (v v' : ByteArray) (h1 : u.size ≤ 65536) (h : u.toList.isEmpty = false) : HandS.VersionLessI.f M m t u v M m t ⟨#[]⟩ v' = some true := by
  unfold HandS.VersionLessI.f VersionLess.f cmpVer
  rw [if_pos ⟨by omega, by decide⟩, show seg M M = 0 by unfold seg; rw [if_neg (by omega), if_neg (by omega)], if_pos rfl, show seg m m = 0 by unfold seg; rw [if_neg (by omega), if_neg (by omega)], if_pos rfl, show seg t t = 0 by unfold seg; rw [if_neg (by omega), if_neg (by omega)], if_pos rfl]
  have hu : u.toList ≠ [] := by intro e; rw [e] at h; cases h
  have h0 : (⟨#[]⟩ : ByteArray).toList = [] := by rw [ByteArray.toList_eq]
  unfold preCmp
  rw [if_neg (fun h => hu h.1), if_neg hu, if_pos h0]
  rfl
theorem incSteps_walk (a0_0 a0_1 a0_2 : Int) (a0_3 a0_4 : ByteArray) (w : World) (hG0 : HandS.GlI w)
    (w0_0 : (Lit.int .u64 a0_0).wf = true) (w0_1 : (Lit.int .u64 a0_1).wf = true) (w0_2 : (Lit.int .u64 a0_2).wf = true) (w0_3 : a0_3.size ≤ maxLen) (w0_4 : a0_4.size ≤ maxLen) :
    Calls Tryd.prog 14 #[.agg #[.int .u64 a0_0, .int .u64 a0_1, .int .u64 a0_2, .string a0_3, .string a0_4]] w fun e w' => e = .returned (.bool true) ∧ Below w.heap.size w w' := by
  obtain ⟨M, rfl, hM⟩ := wf_u64' w0_0
  obtain ⟨m, rfl, hm⟩ := wf_u64' w0_1
  obtain ⟨t, rfl, ht⟩ := wf_u64' w0_2
  have hz : MT.laws_zzFits14.f M m t a0_3 a0_4 = some false ∨ MT.laws_zzFits14.f M m t a0_3 a0_4 = some true := by
    unfold MT.laws_zzFits14.f
    split
    · exact Or.inl rfl
    · split
      · exact Or.inl rfl
      · exact Or.inr rfl
  rcases hz with hz | hz
  · exact walk_big ⟨M, m, t, a0_3, a0_4⟩ w hz
  have hg := svGood_f [(⟨M, m, t, a0_3, a0_4⟩ : S29)] (by simp) 200300 (by omega)
  simp only [List.all_cons, List.all_nil, Bool.and_true] at hg
  cases hgs : goodS ⟨M, m, t, a0_3, a0_4⟩ with
  | false => rw [hgs] at hg; exact walk_bad ⟨M, m, t, a0_3, a0_4⟩ 200300 w hz hg
  | true =>
    rw [hgs] at hg
    unfold goodS at hgs
    simp only [Bool.and_eq_true, decide_eq_true_eq] at hgs
    obtain ⟨⟨sp, sq⟩, gv⟩ := hgs
    have hcase : spec_Plain.f 200300 M m t a0_3 a0_4 = some false ∨ (spec_Plain.f 200300 M m t a0_3 a0_4 = some true ∧ (M : Int) < 18446744073709551615 ∧ (m : Int) < 18446744073709551615 ∧ (t : Int) < 18446744073709551615) := by
      unfold spec_Plain.f
      rw [Good_f M m t a0_3 a0_4 sp sq 200300 (by omega), gv, Option.bind_some, if_pos rfl]
      by_cases h1 : (M : Int) < 18446744073709551615
      · rw [if_pos h1]
        by_cases h2 : (m : Int) < 18446744073709551615
        · rw [if_pos h2]
          by_cases h3 : (t : Int) < 18446744073709551615
          · rw [if_pos h3]
            by_cases h4 : a0_4.toList = []
            · rw [if_pos h4]; exact Or.inr ⟨rfl, h1, h2, h3⟩
            · rw [if_neg h4]
              cases (a0_3.toList != ([] : List UInt8)) with
              | true => exact Or.inr ⟨rfl, h1, h2, h3⟩
              | false => exact Or.inl rfl
          · rw [if_neg h3]; exact Or.inl rfl
        · rw [if_neg h2]; exact Or.inl rfl
      · rw [if_neg h1]; exact Or.inl rfl
    rcases hcase with hp | ⟨hp, l1, l2, l3⟩
    · exact walk_plain ⟨M, m, t, a0_3, a0_4⟩ 200300 w hz hg hp
    have hv : HandS.vOk M m t a0_3 a0_4 := ⟨n64_of M hM, n64_of m hm, n64_of t ht, sp, sq⟩
    have e0 : (⟨#[]⟩ : ByteArray).size ≤ 65536 := by decide
    cases he : a0_3.toList.isEmpty with
    | false =>
      refine walk_good ⟨M, m, t, a0_3, a0_4⟩ ⟨M, m, t, ⟨#[]⟩, ⟨#[]⟩⟩ ⟨M, m + 1, 0, ⟨#[]⟩, ⟨#[]⟩⟩ ⟨M + 1, 0, 0, ⟨#[]⟩, ⟨#[]⟩⟩ 200300 w hz hg hp ?_ ?_ ?_ (less_p _ _ _ _ _ _ sp he) (less_m _ _ _ _ _ _ _ _ e0 e0) (less_M _ _ _ _ _ _ _ _ _ e0 e0) hG0
      · unfold HandS.VersionIncPatch.f; rw [if_pos ⟨hv, Or.inl he⟩, if_pos he]
      · unfold HandS.VersionIncMinor.f; rw [if_pos ⟨hv, by dsimp only; omega⟩]
      · unfold HandS.VersionIncMajor.f; rw [if_pos ⟨hv, by dsimp only; omega⟩]
    | true =>
      refine walk_good ⟨M, m, t, a0_3, a0_4⟩ ⟨M, m, t + 1, ⟨#[]⟩, ⟨#[]⟩⟩ ⟨M, m + 1, 0, ⟨#[]⟩, ⟨#[]⟩⟩ ⟨M + 1, 0, 0, ⟨#[]⟩, ⟨#[]⟩⟩ 200300 w hz hg hp ?_ ?_ ?_ (less_t _ _ _ _ _ _ _ sp e0) (less_m _ _ _ _ _ _ _ _ e0 e0) (less_M _ _ _ _ _ _ _ _ _ e0 e0) hG0
      · unfold HandS.VersionIncPatch.f; rw [if_pos ⟨hv, Or.inr (by dsimp only; omega)⟩, if_neg (by rw [he]; decide)]
      · unfold HandS.VersionIncMinor.f; rw [if_pos ⟨hv, by dsimp only; omega⟩]
      · unfold HandS.VersionIncMajor.f; rw [if_pos ⟨hv, by dsimp only; omega⟩]
end Go.Proofs.YtalpehfjjidfhaaDoor.MJ
