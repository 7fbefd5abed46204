/- What is proved: an argument that is a slice of a known kind is read as a list of that kind; lists of terms. -/
import Derived.Test.YtalpehfjjidfhaaDoorKinds
import Derived.ChangeArms
import Derived.ChangeOld
import Derived.WideShapes
import Derived.DataReads
import Derived.DataElems
import Derived.Deep.Fields
import Derived.ProofKit
namespace Go.Proofs.YtalpehfjjidfhaaDoor
open Go.RowKit Go.Proofs.YtalpehfjjidfhaaDoorW.PrintWords Go.WideShapes Go.Deep
set_option linter.unusedVariables false
theorem pick_list {α : Type} {Q : Nat → α → Prop} : ∀ (n : Nat), (∀ i, i < n → ∃ p, Q i p) → ∃ l : List α, l.length = n ∧ ∀ i p, l[i]? = some p → Q i p
  | 0, _ => ⟨[], rfl, fun i p h => by simp at h⟩
  | n + 1, h => by
    obtain ⟨l, hl, hq⟩ := pick_list n (fun i hi => h i (by omega))
    obtain ⟨p, hp⟩ := h n (by omega)
    refine ⟨l ++ [p], by simp [hl], fun i q hq' => ?_⟩
    by_cases hi : i < l.length
    · rw [List.getElem?_append_left hi] at hq'
      exact hq i q hq'
    · rw [List.getElem?_append_right (by omega)] at hq'
      have hin : i = n := by
        have := (List.getElem?_eq_some_iff.1 hq').1
        simp at this
        omega
      subst hin
      rw [hl] at hq'
      simp at hq'
      subst hq'
      exact hp
section
variable {H : Type} {enc : TypeId × Value → H} {P : Program} {w : World} {base : Nat} {spare : Nat → Bool} {held : Bool}
/-- A slice of elements of kind d. -/
theorem readsSlice {α : Type} (d : Kd α) (Pr : α → Prop) {t e : TypeId} (ht : P.underlying t = some (.slice e)) (hsz : P.cellsOf e = d.sz)
    (He : ∀ n cs x, DataW.trod enc P w base spare held n e cs = some x → ∃ a, d.K w a cs ∧ Pr a) (n : Nat) (cs : List Value) (x : DataW H × List MemPlace) (h : DataW.trod enc P w base spare held n t cs = some x) :
    ∃ l : List α, (Kd.slice e d).K w l cs ∧ ((∀ a ∈ l, Pr a) ∧ l.length ≤ maxLen) := by
  rcases DataW.trod_slice ht h with ⟨rfl, _⟩ | ⟨a, len, cap, elems, rest, m, _, rfl, _, hb, hl, hm, hlen, hel, _⟩
  · exact ⟨[], ⟨none, 0, rfl, Nat.le_refl _, rfl, by simp, fun h => absurd h (by simp)⟩, by simp, by simp⟩
  · obtain ⟨l, hll, hq⟩ := pick_list (Q := fun i p => Pr p ∧ ∃ c : List Value, c.length = d.sz ∧ d.K w p c ∧ ∀ j u, c[j]? = some u → w.cell? (a.add (i * d.sz + j)) = some u) len (fun i hi => by
      have h1 := hel i hi
      rw [List.getElem?_eq_getElem (by omega)] at h1
      obtain ⟨cs', h2, h3⟩ := Option.bind_eq_some_iff.1 h1
      obtain ⟨p, hK, hP⟩ := He _ _ _ h3
      obtain ⟨_, hl2, hc⟩ := World.cells?_some h2
      refine ⟨p, hP, cs', hl2.trans hsz, hK, fun j u hj => ?_⟩
      have hj' : j < cs'.length := (List.getElem?_eq_some_iff.1 hj).1
      have h4 := hc j (by omega)
      rw [hj, hsz] at h4
      rw [← h4]
      rw [Addr.add_add])
    subst hll
    refine ⟨l, ⟨some a, cap, rfl, hl, rfl, by unfold maxLen at hm; omega, fun _ => ⟨a, rfl, fun j p hj => ?_⟩⟩, fun p hp => ?_, by omega⟩
    · exact (hq j p hj).2
    · obtain ⟨i, hi⟩ := List.getElem?_of_mem hp
      exact (hq i p hi).1
theorem open_cells {fuel : Nat} {t : TypeId} {cs : List Value} {x : DataW H × List MemPlace} {fs : Array Field} (hs : P.underlying t = some (.struct fs)) (hone : oneCellFields P fs = true) (h : DataW.trod enc P w base spare held fuel t cs = some x) :
    cs.length = P.cellsOf t ∧ ∃ n, ∀ (j : Nat) (f : Field) (c : Value), fs[j]? = some f → cs[j]? = some c → ∃ y, DataW.trod enc P w base spare held n f.type [c] = some y := by
  obtain ⟨xs, n, _, _, hlen, hxl, hg⟩ := DataW.trod_struct hs h
  refine ⟨hlen, n, fun j f c hj hc => ?_⟩
  obtain ⟨o, k⟩ := hone_of hone j f hj
  have h1 := hg j f hj
  rw [o, k] at h1
  have hl := (List.getElem?_eq_some_iff.1 hc).1
  have hce := (List.getElem?_eq_some_iff.1 hc).2
  have e : (cs.drop j).take 1 = [c] := by
    rw [List.drop_eq_getElem_cons hl, hce]
    rfl
  rw [e] at h1
  have hjx : j < xs.length := by
    rw [hxl]
    exact (Array.getElem?_eq_some_iff.1 hj).1
  exact ⟨_, h1.trans (List.getElem?_eq_getElem hjx)⟩
end
/-- A term's numbers are whole numbers of their types; its text is no longer than any. -/
def wf42 (a : S42) : Prop := (Lit.int .i64 a.f0).wf = true ∧ (Lit.int .i64 a.f1).wf = true ∧ (Lit.int .u64 a.f2).wf = true ∧ (Lit.int .u64 a.f3).wf = true ∧ (Lit.int .u64 a.f4).wf = true ∧ a.f5.size ≤ maxLen
section
variable {H : Type} {enc : TypeId × Value → H} {w : World} {base : Nat} {spare : Nat → Bool} {held : Bool}
set_option maxRecDepth 100000 in
theorem reads42 (n : Nat) (cs : List Value) (x : DataW H × List MemPlace) (h : DataW.trod enc Tryd.prog w base spare held n 42 cs = some x) : ∃ a, k42.K w a cs ∧ wf42 a := by
  obtain ⟨hl, m, hf⟩ := open_cells Tryd.underlying42 (by kernel_rfl) h
  have hl : cs.length = 6 := hl.trans (by kernel_rfl)
  match cs, hl with
  | [c0, c1, c2, c3, c4, c5], _ =>
    obtain ⟨y0, h0⟩ := hf 0 _ c0 rfl rfl
    obtain ⟨a0, e0, q0, w0⟩ := DataW.trod_int Tryd.underlying3 h0
    obtain rfl : c0 = .int .i64 a0 := by simpa using e0
    obtain ⟨y1, h1⟩ := hf 1 _ c1 rfl rfl
    obtain ⟨a1, e1, q1, w1⟩ := DataW.trod_int Tryd.underlying3 h1
    obtain rfl : c1 = .int .i64 a1 := by simpa using e1
    obtain ⟨y2, h2⟩ := hf 2 _ c2 rfl rfl
    obtain ⟨a2, e2, q2, w2⟩ := DataW.trod_int Tryd.underlying27 h2
    obtain rfl : c2 = .int .u64 a2 := by simpa using e2
    obtain ⟨y3, h3⟩ := hf 3 _ c3 rfl rfl
    obtain ⟨a3, e3, q3, w3⟩ := DataW.trod_int Tryd.underlying27 h3
    obtain rfl : c3 = .int .u64 a3 := by simpa using e3
    obtain ⟨y4, h4⟩ := hf 4 _ c4 rfl rfl
    obtain ⟨a4, e4, q4, w4⟩ := DataW.trod_int Tryd.underlying27 h4
    obtain rfl : c4 = .int .u64 a4 := by simpa using e4
    obtain ⟨y5, h5⟩ := hf 5 _ c5 rfl rfl
    obtain ⟨a5, e5, q5, w5⟩ := DataW.trod_string Tryd.underlying9 h5
    obtain rfl : c5 = .string a5 := by simpa using e5
    exact ⟨⟨a0, a1, a2, a3, a4, a5⟩, k42_mk w ⟨a0, a1, a2, a3, a4, a5⟩, w0, w1, w2, w3, w4, w5⟩
set_option maxRecDepth 100000 in
/-- An argument of lists of terms. -/
theorem openL62 {r : Reach} {b0 : Nat} {v : Value} {d : DataW H} {p : List MemPlace} (hv : Value.okWide Tryd.prog w r b0 62 v) (h : DataW.Trod enc Tryd.prog w base spare held 62 v d p) :
    ∃ (A : Option Addr) (c : Nat) (l : List (List S42)), v = .slice A l.length c ∧ l.length ≤ c ∧ Kd.C (Kd.slice 42 k42) w A l.length l ∧ (∀ x ∈ l, (∀ t ∈ x, wf42 t) ∧ x.length ≤ maxLen) ∧ l.length ≤ maxLen ∧ ∀ q ∈ p, q.block < w.heap.size := by
  obtain ⟨a, len, cap, rfl⟩ := okWide_slice Tryd.underlying62 hv
  obtain ⟨fuel, hf⟩ := h
  have hlt := DataW.trod_lt _ _ _ _ hf
  obtain ⟨l, ⟨A, c, hc, hle, hC⟩, hP, hm⟩ := readsSlice (Kd.slice 42 k42) (fun x => (∀ t ∈ x, wf42 t) ∧ x.length ≤ maxLen) Tryd.underlying62 (show Tryd.prog.cellsOf 73 = 1 by kernel_rfl)
    (fun n cs x h => readsSlice k42 wf42 Tryd.underlying73 (show Tryd.prog.cellsOf 42 = 6 by kernel_rfl) (fun n cs x h => reads42 n cs x h) n cs x h) _ _ _ hf
  have hc' : Value.slice a len cap = .slice A l.length c := by simpa [Value.cells] using hc
  rw [hc']
  exact ⟨A, c, l, rfl, hle, hC, hP, hm, hlt⟩
end
end Go.Proofs.YtalpehfjjidfhaaDoor
