/- A row loaded whole at an offset of a block of truth values. -/
import Derived.Test.YtlgdaegaahnkbaaSpecH
namespace Go.Proofs.Ytlgdaegaahnkbaa.Tm
open Go Go.RowKit Cal MC
set_option linter.unusedVariables false
set_option linter.unusedSimpArgs false
theorem run_loadVar_at {P : Program} (w : World) (g o n m : Nat) (t ty : TypeId) (f : Nat → Bool) (fr : Nat × Nat) (d : TypeDesc) (hg : w.heap[g]? = some (.cells (arrB n f) t fr)) (hom : o + m ≤ n)
    (hu : P.underlying ty = some d) (hd : (match d with | .struct _ | .array _ _ => true | _ => false) = true) (hi : (P.info? ty).map (·.size) = some m) :
    (loadVar ty ⟨g, o, none⟩).run P w = .ok (.agg (arrB m fun i => f (o + i))) w := by
  have hl : (loadCells ⟨g, o, none⟩ (arrB m fun i => f (o + i)).toList.length).run P w = .ok (arrB m fun i => f (o + i)).toList.toArray w :=
    run_loadCells_list (P := P) w ⟨g, o, none⟩ (arrB m fun i => f (o + i)).toList (fun j v hv => by
      have hadd : (⟨g, o, none⟩ : Addr).add j = ⟨g, o + j, none⟩ := by unfold Addr.add; split <;> simp_all
      have hj : j < m := by
        have := (List.getElem?_eq_some_iff.1 hv).1
        simpa [arrB] using this
      rw [hadd, cell_of_row w g (o + j) _ t fr hg, arrB_get _ _ _ (by omega)]
      rw [← hv, Array.getElem?_toList, arrB_get _ _ _ hj])
  cases hq : P.info? ty with
  | none => simp [hq] at hi
  | some i =>
    have hs : i.size = m := by simpa [hq] using hi
    have hagg : (isAgg ty).run P w = .ok true w := by
      unfold isAgg
      rw [Sem.run_bind, run_underlying hu w]
      cases d <;> simp_all
    simp only [Array.length_toList, Array.toArray_toList, arrB_size] at hl
    simp [loadVar, Sem.run_bind, hagg, sizeOf, typeInfo, hq, hs, hl]
theorem wpList_load_at {P : Program} {ops : Array Oper} {rest : List Oper} {o : Oper} {a : Act} {w : World} {Q : Exit → Act → World → Prop} (hgd : o.guard = none) (ty : TypeId) (x : Operand) (ho : o.op = .load ty x)
    (g off n m : Nat) (f : Nat → Bool) (hx : a.eval x = .pointer (some ⟨g, off, none⟩)) (t : TypeId) (fr : Nat × Nat) (d : TypeDesc) (hg : w.heap[g]? = some (.cells (arrB n f) t fr)) (hom : off + m ≤ n)
    (hu : P.underlying ty = some d) (hd : (match d with | .struct _ | .array _ _ => true | _ => false) = true) (hi : (P.info? ty).map (·.size) = some m)
    (h : wpList P ops Q rest (a.put o.dst (.agg (arrB m fun i => f (off + i)))) w) : wpList P ops Q (o :: rest) a w :=
  wpList_plain hgd fun K hK => by
    unfold Oper.wp execOp
    simp only [ho, hx, Instr.loadAt, Instr.sureAddr, Sem.run_bind, Sem.run_pure, Result.andThen_ok, run_loadVar_at w g off n m t ty f fr d hg hom hu hd hi]
    exact hK _ _ h
end Go.Proofs.Ytlgdaegaahnkbaa.Tm
