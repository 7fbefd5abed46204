/- A job within wrappers, run: the trace grows by what each wrapper notes. -/
import Derived.Test.YtlnidaidpdbaiaaMCx0
namespace Go.Proofs.Ytlnidaidpdbaiaa.Ch
open Go Go.RowKit MC
open Go.Proofs.YtlnidaidpdbaiaaW.PrintWords Go.Proofs.YtlnidaidpdbaiaaW.PrintLast Go.Proofs.YtlnidaidpdbaiaaW.PrintMore
set_option linter.unusedVariables false
set_option linter.unusedSimpArgs false
theorem enterL_ {P : Program} {ops : Array Oper} {Q : Exit → Act → World → Prop} {rest : List Oper} {oi : Oper} {a : Act} {w : World} (N : Option Tmp) (hd : oi.dst = N) (hg : oi.guard = none) (f : FuncId) (args : Array Value) (hrun : (execOp a.eval oi).run P w = .ok (.enter f args) w)
    (h : Calls P f args w fun e w' => ∃ v, e = .returned v ∧ wpList P ops Q rest (a.put N v) w') : wpList P ops Q (oi :: rest) a w := by
  refine wpList_plain hg fun K hK => ?_
  unfold Oper.wp
  rw [hrun, Oper.upon_enter]
  refine h.mono fun e w'' hh => ?_
  obtain ⟨v, rfl, hk⟩ := hh
  subst hd
  exact hK _ _ hk
def ptr (g : Nat) : Value := .pointer (some ⟨g, 0, none⟩)
/-- What a job leaves within wrappers. -/
def nest : List Int → List Int
  | [] => [0]
  | a :: r => a :: (nest r ++ [wrap64 (-a)])
theorem nest_length (l : List Int) : (nest l).length = 2 * l.length + 1 := by
  induction l with
  | nil => rfl
  | cons a r ih => simp [nest, ih]; omega
/-- The function of a job within wrappers. -/
def Job (t B : Nat) (w : World) : List Int → Value → Prop
  | [], J => J = .func (.func 10) #[] #[ptr t]
  | a :: r, J => ∃ gt gw gj J', J = .func (.func 12) #[] #[ptr gt, ptr gw, ptr gj] ∧ (gt < B ∧ gw < B ∧ gj < B) ∧ w.heap[gt]? = some (.cells #[ptr t] 33 (0, 0)) ∧ w.heap[gw]? = some (.cells #[.int .i64 a] 3 (0, 0)) ∧ w.heap[gj]? = some (.cells #[.iface 35 J'] 27 (0, 0)) ∧ Job t B w r J'
/-- The trace's variable and its array; blocks below B stay as they were at w0, but for the variable. -/
structure St (t B : Nat) (w0 w : World) (v : Value) (xs : List Int) : Prop where mk ::
  (keep : ∀ g, g < B → g ≠ t → w.heap[g]? = w0.heap[g]?)
  (tr : w.heap[t]? = some (.cells #[v] 22 (0, 0)))
  (own : w.ownsRow B 3 1 v xs.length (nums .i64 xs))
  (big : B ≤ w.heap.size)
  (tB : t < B)
  (bel : Below t w0 w)
theorem own_far {w : World} {B n g : Nat} {v : Value} {xs : List Value} (h : w.ownsRow B 3 1 v n xs) (hg : g < B) : some g ≠ v.ownBlock := fun e => by
  have := own_base h g e.symm
  omega
theorem St.mid {t B : Nat} {w0 w w1 : World} {v : Value} {xs : List Int} (h : St t B w0 w v xs) (hg : w.grownBy w1 v.ownBlock) : w1.heap[t]? = some (.cells #[v] 22 (0, 0)) := blk_grown h.tr hg (own_far h.own h.tB)
theorem St.step {t B : Nat} {w0 w w1 : World} {v v1 : Value} {xs ys : List Int} (h : St t B w0 w v xs) (hg : w.grownBy w1 v.ownBlock) (ho : w1.ownsRow B 3 1 v1 ys.length (nums .i64 ys)) : St t B w0 (w1.setCell ⟨t, 0, none⟩ v1) v1 ys := by
  refine ⟨fun g hgB hgt => ?_, blk_set (h.mid hg) 0 v1, own_setCell ho (own_far ho h.tB) v1, ?_, h.tB, ((h.bel.grown hg (by have := h.tB; have := h.big; omega) (fun k hk => by have := own_base h.own k hk; have := h.tB; omega)).setCell (Nat.le_refl _) _)⟩
  · rw [Below.heap_setCell _ _ _ _ hgt, hg.block g (by have := h.big; omega) (own_far h.own hgB)]
    exact h.keep g hgB hgt
  · have := hg.size
    have := h.big
    simp [World.setCell]
    omega
theorem St.drew {t B : Nat} {w0 w : World} {v : Value} {xs : List Int} (h : St t B w0 w v xs) : St t B w0 w.drew v xs := ⟨h.keep, h.tr, h.own.drew, h.big, h.tB, h.bel.drew⟩
/-- A run of a job. -/
def RunPost (t B : Nat) (w0 : World) (ys : List Int) (e : Ending) (w' : World) : Prop := e = .returned (.tuple #[]) ∧ ∃ v', St t B w0 w' v' ys
theorem build1 (ev : Operand → Value) (o : Oper) (x : Operand) (ho : o.op = .buildSlice 22 1 #[(0, x)]) (a : Int) (hx : ev x = .int .i64 a) (w : World) : (execOp ev o).run Try.prog w = .ok (.value (.slice (some ⟨w.heap.size, 0, none⟩) 1 1)) (w.alloc (.cells #[.int .i64 a] 3)) := by
  unfold execOp
  simp only [ho]
  go_simp
set_option maxHeartbeats 2000000 in
/-- The job itself. -/
theorem job_any (t B : Nat) (w0 w : World) (v : Value) (xs : List Int) (h : St t B w0 w v xs) (hl : xs.length ≤ 1000) : Calls Try.prog 10 #[ptr t] w (RunPost t B w0 (xs ++ [0])) := by
  have H := Aside0.mk h
  have HL := Aside0.mk hl
  have ct : w.cell? ⟨t, 0, none⟩ = some v := (blk_cell h.tr 0).trans rfl
  clear h hl
  obtain ⟨ys, hys⟩ : ∃ ys : List Int, ys = xs ++ [0] := ⟨_, rfl⟩
  rw [← hys]
  have HY := Aside0.mk hys
  clear hys
  show Calls Try.prog 10 #[.pointer (some ⟨t, 0, none⟩)] w (RunPost t B w0 ys)
  go_enter Try.func10, Try.ntmps10
  go_wp2_with ((with_reducible refine gate_dst (N := 3) rfl ?_); refine print_append_num (w0 := w) (W := w) B rfl (.tmp 1) (.tmp 2) 22 3 .i64 8 rfl Try.underlying22 info3 (by decide) v xs 0 rfl rfl H.out.own (Below.refl _ _) H.out.big (by have := HL.out; omega) ?_; intro v1 w1 ho1 hb1 hg1 hat1; rw [← HY.out] at ho1; obtain ⟨A1, c1, rfl⟩ := own_slice ho1; have ct1 := (blk_cell (H.out.mid hg1) 0).trans (show _ = some v from rfl); have ft1 := blk_frozen (H.out.mid hg1) 0; have HS := Aside0.mk (H.out.step hg1 ho1); clear ho1 hb1 hg1 hat1)
  go_end0
  exact ⟨rfl, _, HS.out⟩
theorem store1 (ev : Operand → Value) (o : Oper) (x y : Operand) (ho : o.op = .store 22 x y) (t : Nat) (u : Value) (A : Option Addr) (n c : Nat) (hx : ev x = .pointer (some ⟨t, 0, none⟩)) (hy : ev y = .slice A n c) {w : World} (h : w.heap[t]? = some (.cells #[u] 22 (0, 0))) :
    (execOp ev o).run Try.prog w = .ok .skip (w.setCell ⟨t, 0, none⟩ (.slice A n c)) := by
  have cc := (blk_cell h 0).trans (show _ = some u from rfl)
  have ff := blk_frozen h 0
  unfold execOp
  simp only [ho]
  go_simp
theorem nil_run10 (cs : Array Value) (w : World) : (nilAhead 154 35 (.func (.func 10) #[] cs) "Run").run Try.prog w = .ok (some false) w := by kernel_rfl
theorem nil_run12 (cs : Array Value) (w : World) : (nilAhead 154 35 (.func (.func 12) #[] cs) "Run").run Try.prog w = .ok (some false) w := by kernel_rfl
theorem method_run (fv : Value) (w : World) : (method 154 35 fv "Run").run Try.prog w = .ok (28, fv) w := by kernel_rfl
end Go.Proofs.Ytlnidaidpdbaiaa.Ch
