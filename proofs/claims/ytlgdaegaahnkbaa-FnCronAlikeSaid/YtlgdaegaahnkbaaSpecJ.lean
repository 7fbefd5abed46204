/- The reference's question whether a schedule is never activated, by hand: CronEmpty, CronNever. -/
import Derived.Test.YtlgdaegaahnkbaaSpecI
import Derived.ChangeKeysEq
namespace Go.Proofs.Ytlgdaegaahnkbaa.Tm
open Go Go.RowKit Cal MC
open Go.Proofs.YtlgdaegaahnkbaaW.PrintWords
set_option linter.unusedVariables false
set_option linter.unusedSimpArgs false
theorem run_eqItems_bool {P : Program} (w : World) (d n : Nat) {e : TypeId} (he : P.plainKey e = true) (hb : P.underlying e = some .bool) (f g : Nat → Bool) :
    ∀ is : List Nat, (∀ i ∈ is, i < n) → (Op.eqItems (d + 1) e 1 (arrB n f) (arrB n g) is).run P w = .ok (is.all fun i => f i == g i) w
  | [], _ => by simp [Op.eqItems]
  | i :: is, h => by
    have hi : i < n := h i (by simp)
    have ih := run_eqItems_bool w d n he hb f g is (fun j hj => h j (by simp [hj]))
    have p1 := run_part_plain w he (xs := arrB n f) (off := i * 1) (v := .bool (f i)) (by rw [Nat.mul_one]; exact arrB_get n f i hi)
    have p2 := run_part_plain w he (xs := arrB n g) (off := i * 1) (v := .bool (g i)) (by rw [Nat.mul_one]; exact arrB_get n g i hi)
    simp only [Op.eqItems, Sem.run_bind, p1, p2, Result.andThen_ok, run_equalIn_bool w d e _ _ hb]
    cases hq : (f i == g i)
    · simp [hq]
    · simp [hq, ih]
theorem run_eql_arrB {P : Program} (w : World) {t e : TypeId} {n : Nat} {i : TypeInfo} (hu : P.underlying t = some (.array n e)) (hi : P.info? e = some i) (h1 : P.cellsOf e = 1) (he : P.plainKey e = true)
    (hb : P.underlying e = some .bool) (f g : Nat → Bool) :
    (binOp .eql t (.agg (arrB n f)) (.agg (arrB n g))).run P w = .ok (.bool ((List.range n).all fun i => f i == g i)) w := by
  rw [run_eql_struct, show (10000 : Nat) = (9998 + 1) + 1 from rfl, run_equalIn_array w (9998 + 1) _ _ hu hi, h1, run_eqItems_bool w 9998 n he hb f g _ (fun i hi => by simpa using hi)]
  rfl

/-- The values of a set that has none. -/
def emptyB (g : Nat → Bool) : Bool := (List.range 63).all fun i => g (1 + i) == false
theorem field30 (w : World) : (Instr.field 30 (.agg (arrB 64 fun _ => false)) 1).run Try.prog w = .ok (.agg (arrB 63 fun _ => false)) w := by kernel_rfl
theorem info4 : ((Try.prog.info? 4).map fun _ => ()) = some () := by kernel_rfl
theorem cells4 : Try.prog.cellsOf 4 = 1 := by kernel_rfl
theorem plain4 : Try.prog.plainKey 4 = true := by kernel_rfl
theorem guard28 : Try.prog.eqGuardType Try.prog.depth 28 = false := by kernel_rfl
theorem size28 : (Try.prog.info? 28).map (·.size) = some 63 := by kernel_rfl
theorem under28 : Try.prog.underlying 28 = some (.array 63 4) := by kernel_rfl
theorem under4 : Try.prog.underlying 4 = some .bool := by kernel_rfl
theorem eql28 (f g : Nat → Bool) (w : World) : (binOp .eql 28 (.agg (arrB 63 f)) (.agg (arrB 63 g))).run Try.prog w = .ok (.bool ((List.range 63).all fun i => f i == g i)) w := by
  cases hi : Try.prog.info? 4 with
  | none => have := info4; rw [hi] at this; cases this
  | some i => exact run_eql_arrB w under28 hi cells4 plain4 under4 f g
set_option maxHeartbeats 2000000 in
theorem empty_any (g : Nat → Bool) (w : World) : Calls Try.prog 70 #[.agg (arrB 64 g)] w fun e w' => e = .returned (.bool (emptyB g)) ∧ Below w.heap.size w w' := by
  have zz := (zero_of_info zero30).1
  have hF : (w.alloc (.cells (arrB 64 g) 30)).heap[w.heap.size]? = some (.cells (arrB 64 g) 30 (0, 0)) := heap_at _
  have HF := Aside0.mk hF
  clear hF
  have hfd := field30
  have hgd := guard28
  have heq : ∀ w, (binOp .eql 28 (.agg (arrB 63 fun i => g (1 + i))) (.agg (arrB 63 fun _ => false))).run Try.prog w = .ok (.bool (emptyB g)) w := fun w => eql28 (fun i => g (1 + i)) (fun _ => false) w
  go_enter Try.func70, Try.ntmps70
  go_wp2_with (first | (refine wpList_load_at rfl 28 (.tmp 3) rfl w.heap.size 1 64 63 g rfl 30 (0, 0) _ HF.out (by decide) under28 rfl size28 ?_))
  go_ret
  exact ⟨rfl, (Below.refl _ _).alloc (Nat.le_refl _) _⟩
/-- A guarded operation that loads a row at an offset. -/
theorem wpList_load_at_g {P : Program} {ops : Array Oper} {rest : List Oper} {o : Oper} {a : Act} {w : World} {Q : Exit → Act → World → Prop} (ty : TypeId) (x : Operand) (ho : o.op = .load ty x) (hgd : Region.wanted o (yielded ops a.tmps) = true)
    (g off n m : Nat) (f : Nat → Bool) (hx : a.eval x = .pointer (some ⟨g, off, none⟩)) (t : TypeId) (fr : Nat × Nat) (d : TypeDesc) (hg : w.heap[g]? = some (.cells (arrB n f) t fr)) (hom : off + m ≤ n)
    (hu : P.underlying ty = some d) (hd : (match d with | .struct _ | .array _ _ => true | _ => false) = true) (hi : (P.info? ty).map (·.size) = some m)
    (h : wpList P ops Q rest (a.put o.dst (.agg (arrB m fun i => f (off + i)))) w) : wpList P ops Q (o :: rest) a w :=
  BigFrame.wpList_want hgd fun K hK => by
    unfold Oper.wp execOp
    simp only [ho, hx, Instr.loadAt, Instr.sureAddr, Sem.run_bind, Sem.run_pure, Result.andThen_ok, run_loadVar_at w g off n m t ty f fr d hg hom hu hd hi]
    exact hK _ _ h
theorem arrB_congr {n : Nat} {f g : Nat → Bool} (h : ∀ i, i < n → f i = g i) : arrB n f = arrB n g := by
  apply Array.ext_getElem?
  intro i
  rcases Nat.lt_or_ge i n with hi | hi
  · rw [arrB_get n f i hi, arrB_get n g i hi, h i hi]
  · rw [Array.getElem?_eq_none (by rw [arrB_size]; exact hi), Array.getElem?_eq_none (by rw [arrB_size]; exact hi)]
theorem size30 : (Try.prog.info? 30).map (·.size) = some 64 := (zero_of_info zero30).2
def setG (b : SB) (k : Nat) : Nat → Bool := fun i => fcell b 6 (64 * k + i)
def neverB (b : SB) : Bool := emptyB (setG b 2) || (emptyB (setG b 1) || emptyB (setG b 0))
set_option maxHeartbeats 2000000 in
set_option maxRecDepth 100000 in
theorem never_any (b : SB) (w : World) : Calls Try.prog 46 #[.agg (fv b)] w fun e w' => e = .returned (.bool (neverB b)) ∧ Below w.heap.size w w' := by
  have hF : (w.alloc (.cells (fv b) 32)).heap[w.heap.size]? = some (.cells (fv b) 32 (0, 0)) := heap_at _
  have HF := Aside0.mk hF
  have HB := Aside0.mk ((Below.refl w.heap.size w).alloc (Nat.le_refl _) (.cells (fv b) 32))
  clear hF
  obtain ⟨q2, hq2⟩ : ∃ q, q = emptyB (setG b 2) := ⟨_, rfl⟩
  obtain ⟨q1, hq1⟩ : ∃ q, q = emptyB (setG b 1) := ⟨_, rfl⟩
  obtain ⟨q0, hq0⟩ : ∃ q, q = emptyB (setG b 0) := ⟨_, rfl⟩
  have C2 : Aside0 (∀ w, Calls Try.prog 70 #[.agg (arrB 64 fun i => fcell b 6 (128 + i))] w fun e w' => e = .returned (.bool q2) ∧ Below w.heap.size w w') := ⟨fun w => by rw [hq2]; exact empty_any _ w⟩
  have C1 : Aside0 (∀ w, Calls Try.prog 70 #[.agg (arrB 64 fun i => fcell b 6 (64 + i))] w fun e w' => e = .returned (.bool q1) ∧ Below w.heap.size w w') := ⟨fun w => by rw [hq1]; exact empty_any _ w⟩
  have C0 : Aside0 (∀ w, Calls Try.prog 70 #[.agg (arrB 64 fun i => fcell b 6 i)] w fun e w' => e = .returned (.bool q0) ∧ Below w.heap.size w w') := ⟨fun w => by rw [hq0, show setG b 0 = fun i => fcell b 6 i from funext fun i => by unfold setG; rw [Nat.mul_zero, Nat.zero_add]]; exact empty_any _ w⟩
  unfold neverB
  rw [← hq2, ← hq1, ← hq0]
  clear hq2 hq1 hq0
  go_enter Try.func46, Try.ntmps46
  cases q2
  all_goals
    cases q1
    all_goals
      go_wp2_with (first | (refine wpList_load_at rfl 30 (.tmp 3) rfl w.heap.size 128 384 64 (fcell b 6) rfl 32 (0, 0) _ HF.out (by decide) Try.underlying30 rfl size30 ?_) | (refine wpList_load_at_g 30 (.tmp 7) rfl rfl w.heap.size 64 384 64 (fcell b 6) rfl 32 (0, 0) _ HF.out (by decide) Try.underlying30 rfl size30 ?_) | (refine wpList_load_at_g 30 (.tmp 12) rfl rfl w.heap.size 0 384 64 (fcell b 6) rfl 32 (0, 0) _ HF.out (by decide) Try.underlying30 rfl size30 ?_) | (go_at_call 70; (with_reducible first | refine (C2.out _).mono ?_ | refine (C1.out _).mono ?_ | refine (C0.out _).mono ?_); rintro e w2 ⟨rfl, hb⟩; have HF2 := Aside0.mk (blk_below HF.out hb); have HB2 := Aside0.mk (HB.out.trans (hb.mono HB.out.size)); clear hb HF HB; have HF := HF2; have HB := HB2; clear HF2 HB2))
      go_ret
      exact ⟨rfl, HB.out⟩
end Go.Proofs.Ytlgdaegaahnkbaa.Tm
