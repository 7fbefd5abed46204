/- What a job leaves within wrappers: impl.ChainTrace, by hand. -/
import Derived.Test.YtlnidaidpdbaiaaChnD
namespace Go.Proofs.Ytlnidaidpdbaiaa.Ch
open Go Go.RowKit MC
open Go.Proofs.YtlnidaidpdbaiaaW.PrintWords Go.Proofs.YtlnidaidpdbaiaaW.PrintLast Go.Proofs.YtlnidaidpdbaiaaW.PrintMore
set_option linter.unusedVariables false
set_option linter.unusedSimpArgs false
theorem then_at (t gt : Nat) (l : List Int) (gs : List Nat) (A : Option Addr) (c b0 : Nat) (w : World) (hr : w.ownsRow b0 36 1 (.slice A gs.length c) gs.length (gs.map (wrapF gt))) (hgt : w.heap[gt]? = some (.cells #[ptr t] 33 (0, 0))) (hW : Wr w l gs) (hl : l.length ≤ 100) :
    Calls Try.prog 9 #[.agg #[.slice A gs.length c], .iface 35 (.func (.func 10) #[] #[.pointer (some ⟨t, 0, none⟩)])] w fun e w' => ∃ J, e = .returned (.iface 35 J) ∧ Job t w'.heap.size w' l J ∧ Below w.heap.size w w' := then_any t gt l gs A c b0 w hr hgt hW hl
/-- The run's end, its slice written out. -/
def EndPost (t : Nat) (w3 : World) (ys : List Int) (e : Ending) (w' : World) : Prop := e = .returned (.tuple #[]) ∧ ∃ (A : Option Addr) (n c : Nat), St t w3.heap.size w3 w' (.slice A n c) ys
theorem run_at (t : Nat) (l : List Int) (J : Value) (w : World) (hj : Job t w.heap.size w l J) (ht : w.heap[t]? = some (.cells #[.slice none 0 0] 22 (0, 0))) (htl : t < w.heap.size) (hl : l.length ≤ 100) : Calls Try.prog 28 #[J] w (EndPost t w (nest l)) := by
  have h := run_any t w.heap.size w (.slice none 0 0) ht l J hj w (.slice none 0 0) [] ⟨fun _ _ _ => rfl, ht, own_nil _ _ _ _, Nat.le_refl _, htl, Below.refl _ _⟩ (by simp; omega)
  refine h.mono fun e w' h => ?_
  obtain ⟨he, v', h'⟩ := h
  obtain ⟨A, c, rfl⟩ := own_slice h'.own
  exact ⟨he, A, _, c, by simpa using h'⟩
theorem lt_alloc (w : World) (o : Obj) : w.heap.size < (w.alloc o).heap.size := by simp
theorem trace_end {t : Nat} {w w3 w4 : World} {v : Value} {ys : List Int} (ht : t = w.heap.size) (h : St t w3.heap.size w3 w4 v ys) (hb : Below w.heap.size w w3) : Kd.R (Kd.int .i64) 3 w4 w.heap.size (fun _ => True) v ys ∧ Below w.heap.size w w4 := by
  subst ht
  exact ⟨Kd.R_of_own (own_weaken h.own hb.size) (fun _ _ => trivial), hb.trans h.bel⟩
set_option maxHeartbeats 400000 in
set_option maxRecDepth 100000 in
theorem trace_any (A0 : Option Addr) (c0 : Nat) (l0 : List Int) (w : World) (hr0 : Kd.C (Kd.int .i64) w A0 l0.length l0) (hc0 : l0.length ≤ c0) (hl : l0.length ≤ 100) :
    Calls Try.prog 5 #[.slice A0 l0.length c0] w fun e w' => ∃ v0_ : Value, e = .returned (v0_) ∧ Kd.R (Kd.int .i64) 3 w' w.heap.size (fun _ => True) v0_ (nest l0) ∧ Below w.heap.size w w' := by
  have hmf : ∀ (fn : Fn) (first cap : Array Value) (w : World), (Instr.makeFunc fn first cap).run Try.prog w = .ok (.func fn first cap) w := fun _ _ _ _ => rfl
  have HR : Aside0 (Kd.C (Kd.int .i64) (w.alloc (.cells #[.slice none 0 0] 22)) A0 l0.length l0) := ⟨Kd.C_alloc hr0 _⟩
  have HC := Aside0.mk hc0
  have HL := Aside0.mk hl
  have HB : Aside0 (Below w.heap.size w (w.alloc (.cells #[.slice none 0 0] 22))) := ⟨(Below.refl w.heap.size w).alloc (Nat.le_refl _) _⟩
  have HT : Aside0 ((w.alloc (.cells #[.slice none 0 0] 22)).heap[w.heap.size]? = some (.cells #[.slice none 0 0] 22 (0, 0))) := ⟨heap_alloc_new _ _⟩
  have HTL := Aside0.mk (lt_alloc w (.cells #[.slice none 0 0] 22))
  obtain ⟨n, hn⟩ : ∃ n, n = l0.length := ⟨_, rfl⟩
  have HN := Aside0.mk hn
  have HNT : Aside0 (∀ t w1, Kd.C (Kd.int .i64) w1 A0 l0.length l0 → Calls Try.prog 8 #[.pointer (some ⟨t, 0, none⟩), .slice A0 n c0] w1 fun e w' => ∃ (A : Option Addr) (c : Nat) (gs : List Nat), e = .returned (.slice A gs.length c) ∧ Made t w1.heap.size l0 w' (.slice A gs.length c) gs ∧ Below w1.heap.size w1 w') := ⟨fun t w1 h => by rw [hn]; exact noting_any t A0 c0 l0 w1 h hc0 hl⟩
  rw [← hn]
  clear hr0 hc0 hl hn
  obtain ⟨t, ht⟩ : ∃ t, t = w.heap.size := ⟨_, rfl⟩
  have HTE := Aside0.mk ht
  go_enter Try.func5, Try.ntmps5
  go_upto_region 2 with fail
  rw [← ht] at HT HTL ⊢
  clear ht
  generalize hwa : w.alloc _ = wa at HR HB HT HTL ⊢
  clear hwa
  go_wp2_with (first | (go_at_call 8; (with_reducible refine (HNT.out t _ HR.out).mono ?_); rintro e w1 ⟨A, c, gs, rfl, hm, hb⟩; have HM := Aside0.mk hm; have HB1 := Aside0.mk (HB.out.trans (hb.mono HB.out.size)); have HT1 := Aside0.mk (keep_below hb _ _ HT.out); have HTL1 := Aside0.mk (Nat.lt_of_lt_of_le HTL.out hb.size); clear hm hb HR HB HT HTL) | (go_at_call 7; (with_reducible refine (chain_any A gs.length c _).mono ?_); rintro e w2 ⟨rfl, hb⟩; have HB2 := Aside0.mk (HB1.out.trans (hb.mono HB1.out.size)); have HT2 := Aside0.mk (keep_below hb _ _ HT1.out); have HTL2 := Aside0.mk (Nat.lt_of_lt_of_le HTL1.out hb.size); have HTH := Aside0.mk (then_at t wa.heap.size l0 gs A c wa.heap.size w2 (pw_own_below HM.out.own hb) (keep_below hb _ _ HM.out.gt) (HM.out.box.keep (keep_below hb)) HL.out); clear hb HM HB1 HT1 HTL1) | (go_at_call 9; (with_reducible refine HTH.out.mono ?_); rintro e w3 ⟨J, rfl, hj, hb⟩; have HJ := Aside0.mk hj; have HB3 := Aside0.mk (HB2.out.trans (hb.mono HB2.out.size)); have HT3 := Aside0.mk (keep_below hb _ _ HT2.out); have HTL3 := Aside0.mk (Nat.lt_of_lt_of_le HTL2.out hb.size); have HRN := Aside0.mk (run_at t l0 J w3 HJ.out HT3.out HTL3.out HL.out); have hm9 := method_run J; clear hj hb HTH HB2 HT2 HTL2) | (go_at_call 28; (with_reducible refine HRN.out.mono ?_); rintro e w4 ⟨rfl, A5, n5, c5, h5⟩; have HS := Aside0.mk h5; have c4 := (blk_cell h5.tr 0).trans (show _ = some (Value.slice A5 n5 c5) from rfl); clear hm9 h5 HRN))
  go_ret
  have hT := HTE.out
  obtain ⟨h1, h2⟩ := trace_end HTE.out HS.out HB3.out
  rw [HTE.out]
  exact ⟨_, rfl, h1, h2⟩
end Go.Proofs.Ytlnidaidpdbaiaa.Ch
namespace Go.Proofs.Ytlnidaidpdbaiaa.Hand
open Go Go.RowKit MC
open Go.Proofs.YtlnidaidpdbaiaaW.PrintWords
def ChainTrace.f (l0 : List Int) : Option (List Int) := if l0.length ≤ 100 then some (Ch.nest l0) else none
theorem ChainTrace.calls (A0 : Option Addr) (c0 : Nat) (l0 : List Int) (r : List Int) (w : World) (hr0 : Kd.C (Kd.int .i64) w A0 l0.length l0) (hc0 : l0.length ≤ c0) (h : ChainTrace.f l0 = some r) :
    Calls Try.prog 5 #[.slice A0 l0.length c0] w fun e w' => ∃ v0_ : Value, e = .returned (v0_) ∧ Kd.R (Kd.int .i64) 3 w' w.heap.size (fun _ => True) v0_ r ∧ Below w.heap.size w w' := by
  unfold ChainTrace.f at h
  by_cases c : l0.length ≤ 100
  · rw [if_pos c] at h
    cases h
    exact Ch.trace_any A0 c0 l0 w hr0 hc0 c
  · rw [if_neg c] at h
    exact absurd h (by simp)
end Go.Proofs.Ytlnidaidpdbaiaa.Hand
