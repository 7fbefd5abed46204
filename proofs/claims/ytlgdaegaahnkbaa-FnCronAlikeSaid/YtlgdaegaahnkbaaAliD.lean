/- The set of one value: CronOne by hand; a field turned into one value, as an array. -/
import Derived.Test.YtlgdaegaahnkbaaAliC
namespace Go.Proofs.Ytlgdaegaahnkbaa.Tm
open Go Go.RowKit Cal MC
open Go.Proofs.YtlgdaegaahnkbaaW.PrintWords Go.Proofs.YtlgdaegaahnkbaaW.PrintLast Go.Proofs.YtlgdaegaahnkbaaW.PrintMore
set_option linter.unusedVariables false
set_option linter.unusedSimpArgs false
theorem Blk.set {w w1 : World} {g t : Nat} {c : Array Value} {l : List (Nat × Array Value × Nat)} (h : Blk w ((g, c, t) :: l) w1) (i : Nat) (u : Value) : Blk w ((g, c.setIfInBounds i u, t) :: l) (w1.setCell ⟨g, i, none⟩ u) := by
  have hn := h.nod
  rw [List.map_cons, List.nodup_cons] at hn
  refine ⟨?_, ?_, ?_, h.B.setCell (h.own (g, c, t) List.mem_cons_self) _⟩
  · intro p hp
    rcases List.mem_cons.1 hp with rfl | hp
    · exact blk_set (h.lie (g, c, t) List.mem_cons_self) i u
    · refine blk_far (h.lie p (List.mem_cons_of_mem _ hp)) ?_ u
      intro e
      exact hn.1 (List.mem_map.2 ⟨p, hp, e⟩)
  · intro p hp
    rcases List.mem_cons.1 hp with rfl | hp
    · exact h.own (g, c, t) List.mem_cons_self
    · exact h.own p (List.mem_cons_of_mem _ hp)
  · rw [List.map_cons, List.nodup_cons]
    exact hn
/-- The set of one value. -/
def oneB (v : Nat) : Nat → Bool := fun i => decide (i = 1 + v)
theorem one_upd (v : Nat) : (arrB 64 fun _ => false).setIfInBounds (1 + v) (.bool true) = arrB 64 (oneB v) := by
  rw [arrB_set]
  refine arrB_congr fun j _ => ?_
  unfold upd oneB
  by_cases h : j = 1 + v <;> simp [h]
theorem Blk.swap {w w1 : World} {p q : Nat × Array Value × Nat} {l : List (Nat × Array Value × Nat)} (h : Blk w (p :: q :: l) w1) : Blk w (q :: p :: l) w1 := by
  refine ⟨fun r hr => h.lie r ?_, fun r hr => h.own r ?_, ?_, h.B⟩
  · simp only [List.mem_cons] at hr ⊢; exact hr.elim (fun e => Or.inr (Or.inl e)) fun e => e.elim Or.inl fun e => Or.inr (Or.inr e)
  · simp only [List.mem_cons] at hr ⊢; exact hr.elim (fun e => Or.inr (Or.inl e)) fun e => e.elim Or.inl fun e => Or.inr (Or.inr e)
  · have := h.nod
    simp only [List.map_cons, List.nodup_cons, List.mem_cons, not_or] at this ⊢
    exact ⟨⟨fun e => this.1.1 e.symm, this.2.1⟩, this.1.2, this.2.2⟩
set_option maxHeartbeats 2000000 in
set_option maxRecDepth 100000 in
theorem one_any (v : Nat) (hv : v < 63) (w : World) : Calls Try.prog 72 #[.int .i64 (v : Int)] w fun e w' => e = .returned (.agg (arrB 64 (oneB v))) ∧ Below w.heap.size w w' := by
  have zz := (zero_of_info zero30).1
  have hI : Aside0 (Blk w [(w.heap.size + 1, arrB 64 fun _ => false, 30), (w.heap.size, arrB 64 fun _ => false, 30)] ((w.alloc (.cells (arrB 64 fun _ => false) 30)).alloc (.cells (arrB 64 fun _ => false) 30))) := ⟨by
    have := (((Blk.nil w).alloc (arrB 64 fun _ => false) 30).alloc (arrB 64 fun _ => false) 30)
    simpa only [World.size_alloc] using this⟩
  have c0 : ((w.alloc (.cells (arrB 64 fun _ => false) 30)).alloc (.cells (arrB 64 fun _ => false) 30)).cell? ⟨w.heap.size + 1, 1 + v, none⟩ = some (.bool false) := (hI.out.cell 0 rfl (1 + v)).trans (arrB_get _ _ _ (by omega))
  have f0 := blk_frozen (hI.out.get 0 rfl) (1 + v)
  have b0 : (v : Int) < 63 := by omega
  have HV := Aside0.mk hv
  go_enter Try.func72, Try.ntmps72
  go_upto_region 3 with fail
  rw [one_upd]
  clear c0 f0 hI
  have hI : Aside0 (Blk w [(w.heap.size + 1, arrB 64 (oneB v), 30), (w.heap.size, arrB 64 fun _ => false, 30)] ((w.alloc (.cells (arrB 64 fun _ => false) 30)).alloc (.cells (arrB 64 (oneB v)) 30))) := ⟨by
    have := (((Blk.nil w).alloc (arrB 64 fun _ => false) 30).alloc (arrB 64 (oneB v)) 30)
    simpa only [World.size_alloc] using this⟩
  have HS : Aside0 ((Try.prog.info? 30).map (·.size) = some (arrB 64 (oneB v)).size) := ⟨by rw [arrB_size]; exact size30⟩
  have HT : Aside0 ((arrB 64 fun _ => false).size = (arrB 64 (oneB v)).size) := ⟨by rw [arrB_size, arrB_size]⟩
  go_wp2_with (first | ((with_reducible refine wpList_isCons ?_); refine wpList_load_row rfl 30 (.tmp 3) rfl (w.heap.size + 1) rfl 30 _ (0, 0) _ (hI.out.get 0 rfl) Try.underlying30 rfl HS.out ?_) | ((with_reducible refine wpList_isCons ?_); refine wpList_store_row rfl 30 (.tmp 2) (.tmp 7) rfl w.heap.size (arrB 64 (oneB v)) rfl rfl 30 _ (hI.out.get 1 rfl) HS.out HT.out (arrB_one _ _) ?_))
  have hI2 := Aside0.mk ((hI.out.swap).row (arrB 64 (oneB v)))
  generalize hgs : World.setRow _ _ _ = ws at hI2 ⊢
  exact bodyPost_ret (results_cell_row rfl _ _ w.heap.size 30 _ _ _ rfl (hI2.out.get 0 rfl) Try.underlying30 rfl HS.out) rfl ⟨rfl, hI2.out.B⟩
theorem fld_put (a : SB) (k x i : Nat) (hk : k < 3) (hi : i < 6) : fldN (a.put k x) i = if i = k then x else fldN a i := by
  have h : k = 0 ∨ k = 1 ∨ k = 2 := by omega
  have h' : i = 0 ∨ i = 1 ∨ i = 2 ∨ i = 3 ∨ i = 4 ∨ i = 5 := by omega
  rcases h with rfl | rfl | rfl <;> rcases h' with rfl | rfl | rfl | rfl | rfl | rfl <;> rfl
/-- A field's set turned into that of one value. -/
theorem fv_one (a : SB) (k v : Nat) (hk : k < 3) (hv : (v : Int) ≤ highK k) : putAt (fv a) (64 * k) (arrB 64 (oneB v)).toList = fv (a.put k (2 ^ v)) := by
  have hh := high_bd (k : Int)
  have hl : lowK (k : Int) = 0 := by
    have h : k = 0 ∨ k = 1 ∨ k = 2 := by omega
    rcases h with rfl | rfl | rfl <;> rfl
  unfold fv
  rw [show (arrB 64 (oneB v)).toList = (List.range 64).map fun i => Value.bool (oneB v i) from rfl, putAt_arr]
  refine arrB_congr fun j hj => ?_
  unfold over
  by_cases c : 64 * k ≤ j ∧ j < 64 * k + 64
  · rw [if_pos c]
    unfold fcell
    have e1 : j / 64 = k := by omega
    have e2 : j % 64 = j - 64 * k := by omega
    rw [if_pos (by omega), e1, e2, fld_put a k _ k hk (by omega), if_pos rfl]
    unfold setB oneB
    by_cases z : j - 64 * k = 0
    · rw [if_pos z, z, Nat.testBit_two_pow]
      rw [decide_eq_false (by omega), decide_eq_false (by omega)]
    · rw [if_neg z, Nat.testBit_two_pow]
      by_cases q : j - 64 * k = 1 + v
      · rw [decide_eq_true q, decide_eq_true (by rw [hl]; omega), decide_eq_true (by omega)]
        rfl
      · rw [decide_eq_false q, decide_eq_false (p := v = j - 64 * k - 1) (by omega), Bool.and_false]
  · rw [if_neg c]
    unfold fcell
    rw [if_pos (by omega), if_pos (by omega), fld_put a k _ (j / 64) hk (by omega), if_neg (by omega)]
end Go.Proofs.Ytlgdaegaahnkbaa.Tm
