/- A row stored whole at an offset of a block of truth values. -/
import Derived.Test.YtlgdaegaahnkbaaSpecA
namespace Go.Proofs.Ytlgdaegaahnkbaa.Tm
open Go Go.RowKit Cal MC
open Go.Proofs.YtlgdaegaahnkbaaW.PrintWords
set_option linter.unusedVariables false
set_option linter.unusedSimpArgs false
def putAt (cur : Array Value) (j : Nat) : List Value → Array Value
  | [] => cur
  | v :: r => putAt (cur.setIfInBounds j v) (j + 1) r
theorem run_storeCells_at {P : Program} (g o : Nat) (t : TypeId) : ∀ (vs : List Value) (i : Nat) (cur : Array Value) (w : World), w.heap[g]? = some (.cells cur t (0, 0)) → o + i + vs.length ≤ cur.size → (∀ v ∈ vs, v.oneCell' = true) →
    (storeCells ⟨g, o, none⟩ vs i).run P w = .ok () (w.setRow g (putAt cur (o + i) vs))
  | [], i, cur, w, hg, hl, _ => by
    simp only [storeCells, putAt]
    rw [setRow_self w g cur t (0, 0) hg]
    rfl
  | v :: rest, i, cur, w, hg, hl, h1 => by
    have hi : o + i < cur.size := by simp at hl; omega
    have hadd : (⟨g, o, none⟩ : Addr).add i = ⟨g, o + i, none⟩ := by unfold Addr.add; split <;> simp_all
    have hcell : w.cell? ⟨g, o + i, none⟩ = some cur[o + i] := by simp [World.cell?, hg, hi]
    have hfro : w.frozen? ⟨g, o + i, none⟩ = false := by simp [World.frozen?, hg]
    have hst : (store ((⟨g, o, none⟩ : Addr).add i) v).run P w = .ok () (w.setRow g (cur.setIfInBounds (o + i) v)) := by
      rw [hadd, run_store P w _ v _ (h1 v (by simp)), hcell]
      simp [hfro, setCell_eq_setRow w g (o + i) cur t (0, 0) v hg]
    have ih := run_storeCells_at (P := P) g o t rest (i + 1) (cur.setIfInBounds (o + i) v) (w.setRow g (cur.setIfInBounds (o + i) v)) (setRow_heap w g cur _ t _ hg) (by simp at hl ⊢; omega) (fun x hx => h1 x (by simp [hx]))
    simp only [storeCells, Sem.run_bind, hst, Result.andThen_ok, ih, setRow_setRow]
    rfl
theorem run_storeVar_at {P : Program} (w : World) (g o : Nat) (t ty : TypeId) (old cells : Array Value) (hg : w.heap[g]? = some (.cells old t (0, 0))) (hi : (P.info? ty).map (·.size) = some cells.size)
    (ho : o + cells.size ≤ old.size) (h1 : cells.all (·.oneCell') = true) :
    (storeVar ty ⟨g, o, none⟩ (.agg cells)).run P w = .ok () (w.setRow g (putAt old o cells.toList)) := by
  have := run_storeCells_at (P := P) g o t cells.toList 0 old w hg (by simp; omega) (fun v hv => (Array.all_eq_true_iff_forall_mem.1 h1) v (by simpa using hv))
  cases hq : P.info? ty with
  | none => simp [hq] at hi
  | some i =>
    have hs : cells.size = i.size := by simp [hq] at hi; omega
    simp [storeVar, sizeOf, typeInfo, hq, Value.cells, hs, this]
theorem wpList_store_at {P : Program} {ops : Array Oper} {rest : List Oper} {o : Oper} {a : Act} {w : World} {Q : Exit → Act → World → Prop} (hgd : o.guard = none) (ty : TypeId) (x y : Operand) (ho : o.op = .store ty x y)
    (g off : Nat) (cells : Array Value) (hx : a.eval x = .pointer (some ⟨g, off, none⟩)) (hy : a.eval y = .agg cells)
    (t : TypeId) (old : Array Value) (hg : w.heap[g]? = some (.cells old t (0, 0))) (hi : (P.info? ty).map (·.size) = some cells.size)
    (hold : off + cells.size ≤ old.size) (h1 : cells.all (·.oneCell') = true)
    (h : wpList P ops Q rest (a.put o.dst undef) (w.setRow g (putAt old off cells.toList))) : wpList P ops Q (o :: rest) a w :=
  wpList_plain hgd fun K hK => by
    unfold Oper.wp execOp
    simp only [ho, hx, hy, Instr.storeAt, Instr.sureAddr, Sem.run_bind, Sem.run_pure, Result.andThen_ok, run_storeVar_at w g off t ty old cells hg hi hold h1]
    exact hK _ _ h
/-- What a row of truth values makes of a block of truth values. -/
def over (f : Nat → Bool) (o m : Nat) (h : Nat → Bool) : Nat → Bool := fun i => if o ≤ i ∧ i < o + m then h (i - o) else f i
theorem putAt_arr (n : Nat) : ∀ (m : Nat) (f : Nat → Bool) (o : Nat) (h : Nat → Bool), putAt (arrB n f) o ((List.range m).map fun i => Value.bool (h i)) = arrB n (over f o m h)
  | 0, f, o, h => by
    simp only [List.range_zero, List.map_nil, putAt]
    congr 1
    funext i
    unfold over
    rw [if_neg (by omega)]
  | m + 1, f, o, h => by
    rw [List.range_succ_eq_map, List.map_cons, putAt, arrB_set, List.map_map]
    have := putAt_arr n m (upd f o (h 0)) (o + 1) (fun i => h (i + 1))
    rw [show (fun i => Value.bool (h i)) ∘ Nat.succ = fun i => Value.bool (h (i + 1)) from rfl, this]
    congr 1
    funext i
    unfold over upd
    by_cases e : i = o
    · subst e
      rw [if_neg (by omega), if_pos rfl, if_pos (by omega), Nat.sub_self]
    · by_cases c : o ≤ i ∧ i < o + (m + 1)
      · rw [if_pos (by omega), if_pos c, show i - o = i - (o + 1) + 1 by omega]
      · rw [if_neg (by omega), if_neg e, if_neg c]
end Go.Proofs.Ytlgdaegaahnkbaa.Tm
