/- Blocks of a walk, kept as a list; regions that draw their order, met once. -/
import Derived.Test.YtlgdaegaahnkbaaSpecJ
namespace Go.Proofs.Ytlgdaegaahnkbaa.Tm
open Go Go.RowKit Cal MC
open Go.Proofs.YtlgdaegaahnkbaaW.PrintWords Go.Proofs.YtlgdaegaahnkbaaW.PrintLast Go.Proofs.YtlgdaegaahnkbaaW.PrintMore
set_option linter.unusedVariables false
set_option linter.unusedSimpArgs false
/-- The blocks of l lie in w' as the list says, all of them from w on; nothing ahead of w is touched. -/
structure Blk (w : World) (l : List (Nat × Array Value × Nat)) (w' : World) : Prop where mk ::
  (lie : ∀ p ∈ l, w'.heap[p.1]? = some (.cells p.2.1 p.2.2 (0, 0)))
  (own : ∀ p ∈ l, w.heap.size ≤ p.1)
  (nod : (l.map (·.1)).Nodup)
  (B : Below w.heap.size w w')
theorem Blk.nil (w : World) : Blk w [] w := ⟨by simp, by simp, by simp, Below.refl _ _⟩
theorem Blk.below {w w1 w2 : World} {l : List (Nat × Array Value × Nat)} (h : Blk w l w1) (hb : Below w1.heap.size w1 w2) : Blk w l w2 :=
  ⟨fun p hp => blk_below (h.lie p hp) hb, h.own, h.nod, h.B.trans (hb.mono h.B.size)⟩
theorem Blk.drew {w w1 : World} {l : List (Nat × Array Value × Nat)} (h : Blk w l w1) : Blk w l w1.drew := h.below (below_drew1 (Below.refl _ _))
theorem Blk.alloc {w w1 : World} {l : List (Nat × Array Value × Nat)} (h : Blk w l w1) (c : Array Value) (t : Nat) : Blk w ((w1.heap.size, c, t) :: l) (w1.alloc (.cells c t)) := by
  refine ⟨?_, ?_, ?_, h.B.alloc h.B.size _⟩
  · intro p hp
    rcases List.mem_cons.1 hp with rfl | hp
    · exact heap_at _
    · exact blk_alloc (h.lie p hp) _
  · intro p hp
    rcases List.mem_cons.1 hp with rfl | hp
    · exact h.B.size
    · exact h.own p hp
  · rw [List.map_cons, List.nodup_cons]
    refine ⟨fun hm => ?_, h.nod⟩
    obtain ⟨p, hp, he⟩ := List.mem_map.1 hm
    have := blk_lt (h.lie p hp)
    omega
theorem Blk.tail {w w1 : World} {p : Nat × Array Value × Nat} {l : List (Nat × Array Value × Nat)} (h : Blk w (p :: l) w1) : Blk w l w1 :=
  ⟨fun q hq => h.lie q (List.mem_cons_of_mem _ hq), fun q hq => h.own q (List.mem_cons_of_mem _ hq), (List.nodup_cons.1 (by simpa using h.nod)).2, h.B⟩
theorem Blk.drop1 {w w1 : World} {p q : Nat × Array Value × Nat} {l : List (Nat × Array Value × Nat)} (h : Blk w (p :: q :: l) w1) : Blk w (p :: l) w1 := by
  refine ⟨fun r hr => h.lie r ?_, fun r hr => h.own r ?_, ?_, h.B⟩
  · rcases List.mem_cons.1 hr with rfl | hr
    · exact List.mem_cons_self
    · exact List.mem_cons_of_mem _ (List.mem_cons_of_mem _ hr)
  · rcases List.mem_cons.1 hr with rfl | hr
    · exact List.mem_cons_self
    · exact List.mem_cons_of_mem _ (List.mem_cons_of_mem _ hr)
  · have := h.nod
    simp only [List.map_cons, List.nodup_cons, List.mem_cons, not_or] at this ⊢
    exact ⟨this.1.2, this.2.2⟩
theorem Blk.get {w w1 : World} {l : List (Nat × Array Value × Nat)} (h : Blk w l w1) (i : Nat) {g t : Nat} {c : Array Value} (hi : l[i]? = some (g, c, t)) : w1.heap[g]? = some (.cells c t (0, 0)) :=
  h.lie (g, c, t) (List.mem_of_getElem? hi)
theorem Blk.cell {w w1 : World} {l : List (Nat × Array Value × Nat)} (h : Blk w l w1) (i : Nat) {g t : Nat} {c : Array Value} (hi : l[i]? = some (g, c, t)) (j : Nat) : w1.cell? ⟨g, j, none⟩ = c[j]? := blk_cell (h.get i hi) j
theorem Blk.row {w w1 : World} {g t : Nat} {c : Array Value} {l : List (Nat × Array Value × Nat)} (h : Blk w ((g, c, t) :: l) w1) (c' : Array Value) : Blk w ((g, c', t) :: l) (w1.setRow g c') := by
  have hn := h.nod
  rw [List.map_cons, List.nodup_cons] at hn
  refine ⟨?_, ?_, ?_, below_row h.B (h.own (g, c, t) List.mem_cons_self) _⟩
  · intro p hp
    rcases List.mem_cons.1 hp with rfl | hp
    · exact setRow_heap _ _ _ _ _ _ (h.lie (g, c, t) List.mem_cons_self)
    · refine (setRow_other _ _ _ _ ?_).trans (h.lie p (List.mem_cons_of_mem _ hp))
      intro e
      exact hn.1 (List.mem_map.2 ⟨p, hp, e⟩)
  · intro p hp
    rcases List.mem_cons.1 hp with rfl | hp
    · exact h.own (g, c, t) List.mem_cons_self
    · exact h.own p (List.mem_cons_of_mem _ hp)
  · rw [List.map_cons, List.nodup_cons]
    exact hn
theorem exec_load_row {P : Program} {o : Oper} {a : Act} {w : World} (ty : TypeId) (x : Operand) (ho : o.op = .load ty x) (g : Nat) (hx : a.eval x = .pointer (some ⟨g, 0, none⟩)) (t : TypeId) (cs : Array Value) (d : TypeDesc)
    (hg : w.heap[g]? = some (.cells cs t (0, 0))) (hu : P.underlying ty = some d) (hd : (match d with | .struct _ | .array _ _ => true | _ => false) = true) (hi : (P.info? ty).map (·.size) = some cs.size) :
    (execOp a.eval o).run P w = .ok (.value (.agg cs)) w := by
  unfold execOp
  simp only [ho, hx, Instr.loadAt, Instr.sureAddr, Sem.run_bind, Sem.run_pure, Result.andThen_ok, run_loadVar_row w g t ty cs (0, 0) d hg hu hd hi]
theorem exec_store_row {P : Program} {o : Oper} {a : Act} {w : World} (ty : TypeId) (x y : Operand) (ho : o.op = .store ty x y) (g : Nat) (cells : Array Value) (hx : a.eval x = .pointer (some ⟨g, 0, none⟩)) (hy : a.eval y = .agg cells)
    (t : TypeId) (old : Array Value) (hg : w.heap[g]? = some (.cells old t (0, 0))) (hi : (P.info? ty).map (·.size) = some cells.size) (hold : old.size = cells.size) (h1 : cells.all (·.oneCell') = true) :
    (execOp a.eval o).run P w = .ok .skip (w.setRow g cells) := by
  unfold execOp
  simp only [ho, hx, hy, Instr.storeAt, Instr.sureAddr, Sem.run_bind, Sem.run_pure, Result.andThen_ok, run_storeVar_row w g t ty old cells hg hi hold h1]
/-- The posts of a region that ends as it should. -/
def Only (R : Act → World → Prop) (e : Exit) (a : Act) (w : World) : Prop := e = .normal ∧ R a w
theorem only_shut {R : Act → World → Prop} {c : _} {a a' : Act} {w w' : World} : Only R (.panic c) a w → Only R (.panic c) a' w' := fun h => by cases h.1
/-- A region in two steps: what it leaves, said once; what follows. -/
theorem region_split {P : Program} {id : Nat} {ops : Array Oper} {dr : Bool} {Q : Exit → Act → World → Prop} {a : Act} {w : World} (ns : Nat → List (Tmp × Value)) (F : Nat → World → Prop)
    (h1 : (Code.region id ops dr).wp P (Only fun a' w' => ∃ g, a' = putAll a (ns g) ∧ F g w') a w) (h2 : ∀ g w', F g w' → Q .normal (putAll a (ns g)) w') : (Code.region id ops dr).wp P Q a w :=
  Code.wp_mono (fun e a' w' h => by
    obtain ⟨rfl, g, rfl, hf⟩ := h
    exact h2 g w' hf) h1
end Go.Proofs.Ytlgdaegaahnkbaa.Tm
