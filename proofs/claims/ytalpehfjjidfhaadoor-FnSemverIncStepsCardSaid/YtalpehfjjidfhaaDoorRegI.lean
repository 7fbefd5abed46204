/- What is proved: a region that draws its order, by an invariant on what is done: each operation is met once, whatever came before it. -/
import Derived.Orders
namespace Go.Proofs.RegI
open Go
/-- Whether an operation is done. -/
def on (l : Array Bool) (j : Nat) : Bool := l.getD j false
theorem on_set {l : Array Bool} {i j : Nat} (h : i < l.size) : on (l.setIfInBounds i true) j = if j = i then true else on l j := by
  unfold on
  simp only [Array.getD_eq_getD_getElem?, Array.getElem?_setIfInBounds]
  by_cases e : i = j
  · subst e; simp [h]
  · rw [if_neg e, if_neg (fun h => e h.symm)]
theorem on_start (n j : Nat) : on (Array.replicate n false) j = false := by
  unfold on
  simp only [Array.getD_eq_getD_getElem?, Array.getElem?_replicate]
  split <;> rfl
/-- Every operation waits for earlier ones alone. -/
def backB (md : Region.Mode) (ops : Array Oper) : Bool := (List.range ops.size).all fun i => ((ops[i]?).map (·.after.all fun e => !Region.binds md e || decide (e.on < i))).getD true
/-- What an operation waits for. -/
def waits (md : Region.Mode) (o : Oper) : List Nat := (o.after.toList.filter fun e => Region.binds md e).map (·.on)
variable {P : Program} {md : Region.Mode} {ops : Array Oper} {Q : Exit → Act → World → Prop}
theorem ready_iff {l : Array Bool} {i : Nat} (hi : i ∈ Region.ready md ops l) : ∃ o, ops[i]? = some o ∧ l.getD i true = false ∧ ∀ j ∈ waits md o, on l j = true := by
  unfold Region.ready at hi
  simp only [List.mem_filter, List.mem_range, Bool.and_eq_true, Bool.not_eq_true'] at hi
  obtain ⟨h1, h2, h3⟩ := hi
  have ho : ops[i]? = some ops[i] := Array.getElem?_eq_getElem h1
  refine ⟨_, ho, h2, fun j hj => ?_⟩
  rw [ho] at h3
  simp only [Option.map_some, Option.getD_some, Array.all_eq_true'] at h3
  unfold waits at hj
  simp only [List.mem_map, List.mem_filter] at hj
  obtain ⟨e, ⟨he, hb⟩, rfl⟩ := hj
  have := h3 e (by simpa using he)
  rw [hb] at this
  simpa [on] using this
theorem all_done {l : Array Bool} (hl : l.size = ops.size) (hb : backB md ops = true) (hr : Region.ready md ops l = []) : ∀ i, i < ops.size → on l i = true := by
  intro i
  induction i using Nat.strongRecOn with
  | _ i ih =>
    intro hi
    cases h : on l i with
    | true => rfl
    | false =>
      exfalso
      have hm : i ∈ Region.ready md ops l := by
        unfold Region.ready
        simp only [List.mem_filter, List.mem_range, Bool.and_eq_true, Bool.not_eq_true']
        have ho : ops[i]? = some ops[i] := Array.getElem?_eq_getElem hi
        have hli : l[i]? = some l[i] := Array.getElem?_eq_getElem (by omega)
        refine ⟨hi, ?_, ?_⟩
        · unfold on at h
          simp only [Array.getD_eq_getD_getElem?, hli, Option.getD_some] at h ⊢
          exact h
        · rw [ho]
          simp only [Option.map_some, Option.getD_some, Array.all_eq_true']
          intro e he
          unfold backB at hb
          simp only [List.all_eq_true, List.mem_range] at hb
          have h2 := hb i hi
          rw [ho] at h2
          simp only [Option.map_some, Option.getD_some, Array.all_eq_true'] at h2
          have h3 := h2 e he
          cases hbe : Region.binds md e with
          | false => simp
          | true =>
            rw [hbe] at h3
            simp only [Bool.not_true, Bool.false_or, decide_eq_true_eq] at h3
            have := ih e.on h3 (by omega)
            simpa [on] using this
      rw [hr] at hm
      cases hm
theorem op_of {i : Nat} {o : Oper} {K : Act → World → Prop} {a : Act} {w : World} (ho : ops[i]? = some o) (h : if Region.wanted o (yielded ops a.tmps) = true then Oper.wp P o a w K Q else K (a.put o.dst undef) w) : wpOp P ops Q i K a w := by
  unfold wpOp
  rw [ho]
  dsimp only
  split at h
  · rw [if_pos (by assumption)]; exact Or.inl h
  · rw [if_neg (by assumption)]; exact h
/-- Any order, by an invariant. -/
theorem any_inv (I : Array Bool → Act → World → Prop) (hb : backB md ops = true)
    (hs : ∀ (l : Array Bool) (a : Act) (w : World) (i : Nat) (o : Oper), l.size = ops.size → I l a w → ops[i]? = some o → on l i = false → (∀ j, (waits md o).contains j = true → on l j = true) →
      ∀ K : Act → World → Prop, (∀ a' w', I (l.setIfInBounds i true) a' w' → K a' w') → if Region.wanted o (yielded ops a.tmps) = true then Oper.wp P o a w K Q else K (a.put o.dst undef) w)
    (he : ∀ (l : Array Bool) (a : Act) (w : World), (∀ i, i < ops.size → on l i = true) → I l a w → Q .normal a w) :
    ∀ (fuel : Nat) (l : Array Bool) (a : Act) (w : World), l.size = ops.size → l.toList.count false ≤ fuel → I l a w → wpAny P md ops Q fuel l a w := by
  intro fuel
  induction fuel with
  | zero =>
    intro l a w hl hc hI
    have hr : Region.ready md ops l = [] := by
      rcases h : Region.ready md ops l with _ | ⟨i, r⟩
      · rfl
      · exfalso
        obtain ⟨o, ho, h1, _⟩ := ready_iff (md := md) (ops := ops) (l := l) (i := i) (by rw [h]; exact List.mem_cons_self)
        have hil : i < l.size := by rw [hl]; exact (Array.getElem?_eq_some_iff.1 ho).1
        have hf : false ∈ l.toList := by
          have hli : l[i]? = some l[i] := Array.getElem?_eq_getElem hil
          simp only [Array.getD_eq_getD_getElem?, hli, Option.getD_some] at h1
          rw [← h1]
          simp
        have := List.count_pos_iff.2 hf
        omega
    exact ⟨hr, he l a w (all_done hl hb hr) hI⟩
  | succ n ih =>
    intro l a w hl hc hI
    refine ⟨fun hr => he l a w (all_done hl hb hr) hI, fun i hi => ?_⟩
    obtain ⟨o, ho, h1, h2⟩ := ready_iff hi
    have hil : i < l.size := by rw [hl]; exact (Array.getElem?_eq_some_iff.1 ho).1
    have hli : l[i]? = some l[i] := Array.getElem?_eq_getElem hil
    have h3 : l[i] = false := by simpa only [Array.getD_eq_getD_getElem?, hli, Option.getD_some] using h1
    refine op_of ho (hs l a w i o hl hI ho ?_ (fun j hj => h2 j (List.contains_iff_mem.1 hj)) _ (fun a' w' hI' => ih _ _ _ (by simpa using hl) ?_ hI'))
    · unfold on; simp only [Array.getD_eq_getD_getElem?, hli, Option.getD_some, h3]
    · have hset : (l.setIfInBounds i true).toList = l.toList.set i true := by simp
      rw [hset, List.count_set (by simpa using hil)]
      have h4 : l.toList[i]'(by simpa using hil) = false := by simpa using h3
      have h5 : false ∈ l.toList := by rw [← h3]; simp
      have := List.count_pos_iff.2 h5
      rw [h4, if_pos (by decide), if_neg (by decide)]
      omega
theorem region_inv {id : Nat} {a : Act} {w : World} (I : Array Bool → Act → World → Prop) (hm : P.follows .mixedOrders = true) (hb : backB .any ops = true)
    (hs : ∀ (l : Array Bool) (a : Act) (w : World) (i : Nat) (o : Oper), l.size = ops.size → I l a w → ops[i]? = some o → on l i = false → (∀ j, (waits .any o).contains j = true → on l j = true) →
      ∀ K : Act → World → Prop, (∀ a' w', I (l.setIfInBounds i true) a' w' → K a' w') → if Region.wanted o (yielded ops a.tmps) = true then Oper.wp P o a w K Q else K (a.put o.dst undef) w)
    (he : ∀ (l : Array Bool) (a : Act) (w : World), (∀ i, i < ops.size → on l i = true) → I l a w → Q .normal a w)
    (h0 : I (Array.replicate ops.size false) a { w with drawn := w.drawn + 1 }) : (Code.region id ops true).wp P Q a w :=
  wp_region_any hm (any_inv I hb hs he _ _ _ _ (by simp) (by simp) h0)
end Go.Proofs.RegI
