/- cron's dayMatches over UTC, by hand. -/
import Derived.Test.YtlgdaegaahnkbaaTimeE
namespace Go.Proofs.Ytlgdaegaahnkbaa.Tm
open Go Go.RowKit Cal MC
open Go.Proofs.YtlgdaegaahnkbaaW.PrintWords Go.Proofs.YtlgdaegaahnkbaaW.PrintLast Go.Proofs.YtlgdaegaahnkbaaW.PrintMore
set_option linter.unusedVariables false
set_option linter.unusedSimpArgs false
/-- The cells of a schedule of six sets. -/
def sv (b : SB) : Array Value := #[.int .u64 (b.s : Int), .int .u64 (b.i : Int), .int .u64 (b.h : Int), .int .u64 (b.d : Int), .int .u64 (b.m : Int), .int .u64 (b.w : Int), .pointer none]
def SAt (w : World) (p : Nat) (b : SB) : Prop := w.heap[p]? = some (.cells (sv b) 111 (0, 0))
theorem SAt.below {w w1 : World} {p : Nat} {b : SB} (h : SAt w p b) (hb : Below w.heap.size w w1) : SAt w1 p b := blk_below h hb
structure Wf (b : SB) : Prop where mk ::
  (s : b.s < 18446744073709551616)
  (i : b.i < 18446744073709551616)
  (h : b.h < 18446744073709551616)
  (d : b.d < 18446744073709551616)
  (m : b.m < 18446744073709551616)
  (w : b.w < 18446744073709551616)
/-- A time's block, the first of a call, and a schedule's. -/
structure Dm (w w' : World) (p : Nat) (b : SB) (t : Array Value) : Prop where mk ::
  (T : w'.heap[w.heap.size]? = some (.cells t 70 (0, 0)))
  (S : SAt w' p b)
  (B : Below w.heap.size w w')
theorem Dm.below {w w1 w2 : World} {p : Nat} {b : SB} {t : Array Value} (h : Dm w w1 p b t) (hb : Below w1.heap.size w1 w2) : Dm w w2 p b t := ⟨blk_below h.T hb, h.S.below hb, h.B.trans (hb.mono h.B.size)⟩
theorem Dm.drew {w w1 : World} {p : Nat} {b : SB} {t : Array Value} (h : Dm w w1 p b t) : Dm w w1.drew p b t := h.below (below_drew1 (Below.refl _ _))
theorem dm_start {w : World} {p : Nat} {b : SB} (hs : SAt w p b) (t : Array Value) : Dm w (w.alloc (.cells t 70)) p b t :=
  ⟨heap_at _, hs.below ((Below.refl _ w).alloc (Nat.le_refl _) _), (Below.refl _ w).alloc (Nat.le_refl _) _⟩
theorem and_pow_int (S : Nat) (v : Int) (hS : S < 18446744073709551616) (v0 : 0 ≤ v) (v1 : v ≤ 63) : Go.bits .and .u64 (IntKind.u64.wrap ((2 : Int) ^ v.toNat)) (S : Int) = if bitOf S v then ((2 ^ v.toNat : Nat) : Int) else 0 := by
  have hp : 2 ^ v.toNat < 18446744073709551616 := Nat.lt_of_le_of_lt (Nat.pow_le_pow_right (by decide) (show v.toNat ≤ 63 by omega)) (by decide)
  have e : IntKind.u64.wrap ((2 : Int) ^ v.toNat) = ((2 ^ v.toNat : Nat) : Int) := by
    rw [IntKind.wrap_u64]
    have e : ((2 : Int) ^ v.toNat) = ((2 ^ v.toNat : Nat) : Int) := by simp
    rw [e]
    generalize 2 ^ v.toNat = k at hp
    omega
  rw [e, bits_and_u64_nat _ _ hp hS, and_pow]
  unfold bitOf
  split <;> simp
theorem min_to (v : Int) (v0 : 0 ≤ v) (v1 : v ≤ 63) : min (IntKind.u64.wrap v).toNat 64 = v.toNat := by
  rw [u64_in v v0 (by omega), Nat.min_eq_left (by omega)]
theorem bit_pos (S : Nat) (v : Int) (hS : S < 18446744073709551616) (v0 : 0 ≤ v) (v1 : v ≤ 63) : decide (0 < Go.bits .and .u64 (IntKind.u64.wrap ((2 : Int) ^ min (IntKind.u64.wrap v).toNat 64)) (S : Int)) = bitOf S v := by
  rw [min_to v v0 v1, and_pow_int S v hS v0 v1]
  have hp : 0 < 2 ^ v.toNat := Nat.two_pow_pos _
  cases bitOf S v
  · simp
  · simp only [if_true]; exact decide_eq_true (by omega)
theorem bit_zero (S : Nat) (v : Int) (hS : S < 18446744073709551616) (v0 : 0 ≤ v) (v1 : v ≤ 63) : (Go.bits .and .u64 (IntKind.u64.wrap ((2 : Int) ^ min (IntKind.u64.wrap v).toNat 64)) (S : Int) == 0) = !bitOf S v := by
  rw [min_to v v0 v1, and_pow_int S v hS v0 v1]
  have hp : 0 < 2 ^ v.toNat := Nat.two_pow_pos _
  cases bitOf S v
  · simp
  · simp only [if_true, Bool.not_true, beq_eq_false_iff_ne, ne_eq]; omega
theorem star_pos (S : Nat) (hS : S < 18446744073709551616) : decide (0 < Go.bits .and .u64 (S : Int) 9223372036854775808) = S.testBit 63 := by
  have h := bits_and_u64_nat S 9223372036854775808 hS (by decide)
  rw [show ((9223372036854775808 : Nat) : Int) = 9223372036854775808 from rfl] at h
  rw [h, show (9223372036854775808 : Nat) = 2 ^ 63 by decide, Nat.and_comm, and_pow]
  cases S.testBit 63 <;> simp
set_option maxHeartbeats 4000000 in
set_option maxRecDepth 100000 in
theorem day_any_ok (p : Nat) (b : SB) (x : Int) (w : World) (hs : SAt w p b) (hw : Wf b) (hx : Dom x) :
    Calls Try.prog 122 #[.pointer (some ⟨p, 0, none⟩), .agg #[.int .u64 0, .int .i64 (sec x), .pointer none]] w fun e w' => e = .returned (.bool (dayOk b.d b.w (x / 86400))) ∧ Below w.heap.size w w' := by
  have HX := Aside0.mk hx
  have hI := Aside0.mk (dm_start hs #[.int .u64 0, .int .i64 (sec x), .pointer none]).drew
  have d0 := (dy_bd (x / 86400)).1
  have d1 : dy (x / 86400) ≤ 31 := by have := (dy_bd (x / 86400)).2; have := (md_bd (yr (x / 86400)) (mo (x / 86400))).2; omega
  have v0 : 0 ≤ wd (x / 86400) := by unfold wd; omega
  have v1 : wd (x / 86400) ≤ 6 := by unfold wd; omega
  have e1 := bit_pos b.d (dy (x / 86400)) hw.d (by omega) (by omega)
  have e2 := bit_pos b.w (wd (x / 86400)) hw.w (by omega) (by omega)
  have e3 := star_pos b.d hw.d
  have e4 := star_pos b.w hw.w
  rw [show dayOk b.d b.w (x / 86400) = if b.d.testBit 63 || b.w.testBit 63 then bitOf b.d (dy (x / 86400)) && bitOf b.w (wd (x / 86400)) else bitOf b.d (dy (x / 86400)) || bitOf b.w (wd (x / 86400)) from rfl]
  generalize bitOf b.d (dy (x / 86400)) = q1 at e1 ⊢
  generalize bitOf b.w (wd (x / 86400)) = q2 at e2 ⊢
  generalize b.d.testBit 63 = q3 at e3 ⊢
  generalize b.w.testBit 63 = q4 at e4 ⊢
  clear hx hs
  go_enter Try.func122, Try.ntmps122
  go_wp2_with fail
  refine start_ (n := 11) (S := fun w' => w'.cell? ⟨w.heap.size, 0, none⟩ = some (.int .u64 0) ∧ w'.cell? ⟨w.heap.size, 1, none⟩ = some (.int .i64 (sec x)) ∧ w'.cell? ⟨w.heap.size, 2, none⟩ = some (.pointer none) ∧ w'.cell? ⟨p, 3, none⟩ = some (.int .u64 (b.d : Int))) (ds := []) #[false, false, false, false, false, false, false, false, false, false, false] (by kernel_rfl) rfl rfl ⟨(blk_cell hI.out.T 0).trans rfl, (blk_cell hI.out.T 1).trans rfl, (blk_cell hI.out.T 2).trans rfl, (blk_cell hI.out.S 3).trans rfl⟩ (fun hHeld => ?_)
  refine take_ (i := 0) (N := some 7) (v := ?_) (a' := ?_) #[true, false, false, false, false, false, false, false, false, false, false] rfl rfl (by kernel_rfl) (fun _ _ _ h => h) (Or.inl ⟨by rfl, ?_⟩) hHeld ?_ ?_
  rotate_left
  · rintro w' ⟨s0, s1, s2, s3⟩
    go_simp
    with_reducible rfl
  rotate_left
  · simp only [Act.put, List.setIfInBounds_toArray, List.set_cons_zero, List.set_cons_succ, i64_w, i32_w, e1, e2]
    rfl
  refine pure_ (i := 4) (N := some 11) (v := ?_) (a' := ?_) #[true, false, false, false, true, false, false, false, false, false, false] rfl rfl (by kernel_rfl) (fun _ _ _ h => h) (Or.inl ⟨by rfl, ?_⟩) ?_ ?_
  rotate_left
  · intro w'
    go_simp
    with_reducible rfl
  rotate_left
  · simp only [Act.put, List.setIfInBounds_toArray, List.set_cons_zero, List.set_cons_succ, i64_w, i32_w, e1, e2]
    rfl
  refine pure_ (i := 5) (N := some 12) (v := ?_) (a' := ?_) #[true, false, false, false, true, true, false, false, false, false, false] rfl rfl (by kernel_rfl) (fun _ _ _ h => h) (Or.inl ⟨by rfl, ?_⟩) ?_ ?_
  rotate_left
  · intro w'
    go_simp
    with_reducible rfl
  rotate_left
  · simp only [Act.put, List.setIfInBounds_toArray, List.set_cons_zero, List.set_cons_succ, i64_w, i32_w, e1, e2]
    rfl
  refine pure_ (i := 6) (N := some 13) (v := ?_) (a' := ?_) #[true, false, false, false, true, true, true, false, false, false, false] rfl rfl (by kernel_rfl) (fun _ _ _ h => h) (Or.inl ⟨by rfl, ?_⟩) ?_ ?_
  rotate_left
  · intro w'
    go_simp
    with_reducible rfl
  rotate_left
  · simp only [Act.put, List.setIfInBounds_toArray, List.set_cons_zero, List.set_cons_succ, i64_w, i32_w, e1, e2]
    rfl
  refine take_ (i := 7) (N := some 14) (v := ?_) (a' := ?_) #[true, false, false, false, true, true, true, true, false, false, false] rfl rfl (by kernel_rfl) (fun _ _ _ h => h) (Or.inl ⟨by rfl, ?_⟩) hHeld ?_ ?_
  rotate_left
  · rintro w' ⟨s0, s1, s2, s3⟩
    go_simp
    with_reducible rfl
  rotate_left
  · simp only [Act.put, List.setIfInBounds_toArray, List.set_cons_zero, List.set_cons_succ, i64_w, i32_w, e1, e2]
    rfl
  refine one_ (i := 1) (N := some 8) #[true, true, false, false, true, true, true, true, false, false, false] rfl rfl (by kernel_rfl) (by decide) (fun K hK => ?_)
  refine goes_ Try.func111 (by kernel_rfl) rfl #[.agg #[.int .u64 0, .int .i64 (sec x), .pointer none]] (by rfl) rfl rfl (by (try simp only [List.map_toArray, List.map_cons, List.map_nil]); first | done | rfl) ?_
  refine (day_any 0 x _ (by decide) (by decide) HX.out).mono ?_
  rintro e w1 ⟨rfl, hb⟩
  refine ⟨_, rfl, ?_⟩
  have hI2 := Aside0.mk (hI.out.below hb)
  clear hI hb
  have hI := hI2
  clear hI2
  refine hK.out _ _ ⟨(blk_cell hI.out.T 0).trans rfl, (blk_cell hI.out.T 1).trans rfl, (blk_cell hI.out.T 2).trans rfl, (blk_cell hI.out.S 3).trans rfl⟩ (fun hHeld => ?_)
  clear hK K
  refine norm_ (a' := ?_) ?_ ?_
  rotate_left
  · show Act.put _ (some 8) _ = _
    simp only [Act.put, List.setIfInBounds_toArray, List.set_cons_zero, List.set_cons_succ, i64_w, i32_w]
    rfl
  refine pure_ (i := 2) (N := some 9) (v := ?_) (a' := ?_) #[true, true, true, false, true, true, true, true, false, false, false] rfl rfl (by kernel_rfl) (fun _ _ _ h => h) (Or.inl ⟨by rfl, ?_⟩) ?_ ?_
  rotate_left
  · intro w'
    go_simp
    with_reducible rfl
  rotate_left
  · simp only [Act.put, List.setIfInBounds_toArray, List.set_cons_zero, List.set_cons_succ, i64_w, i32_w, e1, e2]
    rfl
  refine pure_ (i := 3) (N := some 10) (v := ?_) (a' := ?_) #[true, true, true, true, true, true, true, true, false, false, false] rfl rfl (by kernel_rfl) (fun _ _ _ h => h) (Or.inl ⟨by rfl, ?_⟩) ?_ ?_
  rotate_left
  · intro w'
    go_simp
    with_reducible rfl
  rotate_left
  · simp only [Act.put, List.setIfInBounds_toArray, List.set_cons_zero, List.set_cons_succ, i64_w, i32_w, e1, e2]
    rfl
  refine pure_ (i := 8) (N := some 15) (v := ?_) (a' := ?_) #[true, true, true, true, true, true, true, true, true, false, false] rfl rfl (by kernel_rfl) (fun _ _ _ h => h) (Or.inl ⟨by rfl, ?_⟩) ?_ ?_
  rotate_left
  · intro w'
    go_simp
    with_reducible rfl
  rotate_left
  · simp only [Act.put, List.setIfInBounds_toArray, List.set_cons_zero, List.set_cons_succ, i64_w, i32_w, e1, e2]
    rfl
  refine pure_ (i := 9) (N := some 16) (v := ?_) (a' := ?_) #[true, true, true, true, true, true, true, true, true, true, false] rfl rfl (by kernel_rfl) (fun _ _ _ h => h) (Or.inl ⟨by rfl, ?_⟩) ?_ ?_
  rotate_left
  · intro w'
    go_simp
    with_reducible rfl
  rotate_left
  · simp only [Act.put, List.setIfInBounds_toArray, List.set_cons_zero, List.set_cons_succ, i64_w, i32_w, e1, e2]
    rfl
  refine pure_ (i := 10) (N := some 5) (v := ?_) (a' := ?_) #[true, true, true, true, true, true, true, true, true, true, true] rfl rfl (by kernel_rfl) (fun _ _ _ h => h) (Or.inl ⟨by rfl, ?_⟩) ?_ ?_
  rotate_left
  · intro w'
    go_simp
    with_reducible rfl
  rotate_left
  · simp only [Act.put, List.setIfInBounds_toArray, List.set_cons_zero, List.set_cons_succ, i64_w, i32_w, e1, e2]
    rfl
  refine done_ (by kernel_rfl) ?_
  have hI := Aside0.mk hI.out.drew
  go_wp2_with fail
  refine start_ (n := 11) (S := fun w' => w'.cell? ⟨w.heap.size, 0, none⟩ = some (.int .u64 0) ∧ w'.cell? ⟨w.heap.size, 1, none⟩ = some (.int .i64 (sec x)) ∧ w'.cell? ⟨w.heap.size, 2, none⟩ = some (.pointer none) ∧ w'.cell? ⟨p, 5, none⟩ = some (.int .u64 (b.w : Int))) (ds := []) #[false, false, false, false, false, false, false, false, false, false, false] (by kernel_rfl) rfl rfl ⟨(blk_cell hI.out.T 0).trans rfl, (blk_cell hI.out.T 1).trans rfl, (blk_cell hI.out.T 2).trans rfl, (blk_cell hI.out.S 5).trans rfl⟩ (fun hHeld => ?_)
  refine take_ (i := 0) (N := some 17) (v := ?_) (a' := ?_) #[true, false, false, false, false, false, false, false, false, false, false] rfl rfl (by kernel_rfl) (fun _ _ _ h => h) (Or.inl ⟨by rfl, ?_⟩) hHeld ?_ ?_
  rotate_left
  · rintro w' ⟨s0, s1, s2, s3⟩
    go_simp
    with_reducible rfl
  rotate_left
  · simp only [Act.put, List.setIfInBounds_toArray, List.set_cons_zero, List.set_cons_succ, i64_w, i32_w, e1, e2]
    rfl
  refine pure_ (i := 4) (N := some 21) (v := ?_) (a' := ?_) #[true, false, false, false, true, false, false, false, false, false, false] rfl rfl (by kernel_rfl) (fun _ _ _ h => h) (Or.inl ⟨by rfl, ?_⟩) ?_ ?_
  rotate_left
  · intro w'
    go_simp
    with_reducible rfl
  rotate_left
  · simp only [Act.put, List.setIfInBounds_toArray, List.set_cons_zero, List.set_cons_succ, i64_w, i32_w, e1, e2]
    rfl
  refine pure_ (i := 5) (N := some 22) (v := ?_) (a' := ?_) #[true, false, false, false, true, true, false, false, false, false, false] rfl rfl (by kernel_rfl) (fun _ _ _ h => h) (Or.inl ⟨by rfl, ?_⟩) ?_ ?_
  rotate_left
  · intro w'
    go_simp
    with_reducible rfl
  rotate_left
  · simp only [Act.put, List.setIfInBounds_toArray, List.set_cons_zero, List.set_cons_succ, i64_w, i32_w, e1, e2]
    rfl
  refine pure_ (i := 6) (N := some 23) (v := ?_) (a' := ?_) #[true, false, false, false, true, true, true, false, false, false, false] rfl rfl (by kernel_rfl) (fun _ _ _ h => h) (Or.inl ⟨by rfl, ?_⟩) ?_ ?_
  rotate_left
  · intro w'
    go_simp
    with_reducible rfl
  rotate_left
  · simp only [Act.put, List.setIfInBounds_toArray, List.set_cons_zero, List.set_cons_succ, i64_w, i32_w, e1, e2]
    rfl
  refine take_ (i := 7) (N := some 24) (v := ?_) (a' := ?_) #[true, false, false, false, true, true, true, true, false, false, false] rfl rfl (by kernel_rfl) (fun _ _ _ h => h) (Or.inl ⟨by rfl, ?_⟩) hHeld ?_ ?_
  rotate_left
  · rintro w' ⟨s0, s1, s2, s3⟩
    go_simp
    with_reducible rfl
  rotate_left
  · simp only [Act.put, List.setIfInBounds_toArray, List.set_cons_zero, List.set_cons_succ, i64_w, i32_w, e1, e2]
    rfl
  refine one_ (i := 1) (N := some 18) #[true, true, false, false, true, true, true, true, false, false, false] rfl rfl (by kernel_rfl) (by decide) (fun K hK => ?_)
  refine goes_ Try.func56 (by kernel_rfl) rfl #[.agg #[.int .u64 0, .int .i64 (sec x), .pointer none]] (by rfl) rfl rfl (by (try simp only [List.map_toArray, List.map_cons, List.map_nil]); first | done | rfl) ?_
  refine (weekday_any 0 x _ (by decide) (by decide) HX.out).mono ?_
  rintro e w1 ⟨rfl, hb⟩
  refine ⟨_, rfl, ?_⟩
  have hI2 := Aside0.mk (hI.out.below hb)
  clear hI hb
  have hI := hI2
  clear hI2
  refine hK.out _ _ ⟨(blk_cell hI.out.T 0).trans rfl, (blk_cell hI.out.T 1).trans rfl, (blk_cell hI.out.T 2).trans rfl, (blk_cell hI.out.S 5).trans rfl⟩ (fun hHeld => ?_)
  clear hK K
  refine norm_ (a' := ?_) ?_ ?_
  rotate_left
  · show Act.put _ (some 18) _ = _
    simp only [Act.put, List.setIfInBounds_toArray, List.set_cons_zero, List.set_cons_succ, i64_w, i32_w]
    rfl
  refine pure_ (i := 2) (N := some 19) (v := ?_) (a' := ?_) #[true, true, true, false, true, true, true, true, false, false, false] rfl rfl (by kernel_rfl) (fun _ _ _ h => h) (Or.inl ⟨by rfl, ?_⟩) ?_ ?_
  rotate_left
  · intro w'
    go_simp
    with_reducible rfl
  rotate_left
  · simp only [Act.put, List.setIfInBounds_toArray, List.set_cons_zero, List.set_cons_succ, i64_w, i32_w, e1, e2]
    rfl
  refine pure_ (i := 3) (N := some 20) (v := ?_) (a' := ?_) #[true, true, true, true, true, true, true, true, false, false, false] rfl rfl (by kernel_rfl) (fun _ _ _ h => h) (Or.inl ⟨by rfl, ?_⟩) ?_ ?_
  rotate_left
  · intro w'
    go_simp
    with_reducible rfl
  rotate_left
  · simp only [Act.put, List.setIfInBounds_toArray, List.set_cons_zero, List.set_cons_succ, i64_w, i32_w, e1, e2]
    rfl
  refine pure_ (i := 8) (N := some 25) (v := ?_) (a' := ?_) #[true, true, true, true, true, true, true, true, true, false, false] rfl rfl (by kernel_rfl) (fun _ _ _ h => h) (Or.inl ⟨by rfl, ?_⟩) ?_ ?_
  rotate_left
  · intro w'
    go_simp
    with_reducible rfl
  rotate_left
  · simp only [Act.put, List.setIfInBounds_toArray, List.set_cons_zero, List.set_cons_succ, i64_w, i32_w, e1, e2]
    rfl
  refine pure_ (i := 9) (N := some 26) (v := ?_) (a' := ?_) #[true, true, true, true, true, true, true, true, true, true, false] rfl rfl (by kernel_rfl) (fun _ _ _ h => h) (Or.inl ⟨by rfl, ?_⟩) ?_ ?_
  rotate_left
  · intro w'
    go_simp
    with_reducible rfl
  rotate_left
  · simp only [Act.put, List.setIfInBounds_toArray, List.set_cons_zero, List.set_cons_succ, i64_w, i32_w, e1, e2]
    rfl
  refine pure_ (i := 10) (N := some 6) (v := ?_) (a' := ?_) #[true, true, true, true, true, true, true, true, true, true, true] rfl rfl (by kernel_rfl) (fun _ _ _ h => h) (Or.inl ⟨by rfl, ?_⟩) ?_ ?_
  rotate_left
  · intro w'
    go_simp
    with_reducible rfl
  rotate_left
  · simp only [Act.put, List.setIfInBounds_toArray, List.set_cons_zero, List.set_cons_succ, i64_w, i32_w, e1, e2]
    rfl
  refine done_ (by kernel_rfl) ?_
  have c3 : World.cell? _ ⟨p, 3, none⟩ = some (.int .u64 (b.d : Int)) := (blk_cell hI.out.S 3).trans rfl
  have c5 : World.cell? _ ⟨p, 5, none⟩ = some (.int .u64 (b.w : Int)) := (blk_cell hI.out.S 5).trans rfl
  have HB := Aside0.mk hI.out.B
  clear hI e1 e2
  cases q1 <;> cases q2 <;> cases q3 <;> cases q4
  all_goals
    go_wp2_with fail
    go_ret
    exact ⟨rfl, HB.out⟩
end Go.Proofs.Ytlgdaegaahnkbaa.Tm
