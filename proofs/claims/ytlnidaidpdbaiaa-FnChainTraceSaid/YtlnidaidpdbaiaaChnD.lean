/- Wrappers that note their numbers, made: noting, by hand. -/
import Derived.Test.YtlnidaidpdbaiaaChnC
namespace Go.Proofs.Ytlnidaidpdbaiaa.Ch
open Go Go.RowKit MC
open Go.Proofs.YtlnidaidpdbaiaaW.PrintWords Go.Proofs.YtlnidaidpdbaiaaW.PrintLast Go.Proofs.YtlnidaidpdbaiaaW.PrintMore
set_option linter.unusedVariables false
set_option linter.unusedSimpArgs false
theorem info36 : (Try.prog.info? 36).map (fun i => (i.zero, i.size, i.bytes)) = some (some .nilFunc, 1, 8) := by kernel_rfl
/-- The wrappers made so far. -/
structure Made (t B : Nat) (l : List Int) (w : World) (v : Value) (gs : List Nat) : Prop where mk ::
  (gt : w.heap[B]? = some (.cells #[ptr t] 33 (0, 0)))
  (own : w.ownsRow B 36 1 v gs.length (gs.map (wrapF B)))
  (box : Wr w l gs)
theorem Made.step {t B : Nat} {l : List Int} {w w1 : World} {v v1 : Value} {gs gs' : List Nat} {a : Int} (h : Made t B l w v gs) (he : gs' = gs ++ [w.heap.size]) (hg : (w.alloc (.cells #[.int .i64 a] 3)).grownBy w1 v.ownBlock) (ho : w1.ownsRow B 36 1 v1 gs'.length (gs'.map (wrapF B))) : Made t B (l ++ [a]) w1 v1 gs' := by
  have hoA : (w.alloc (.cells #[.int .i64 a] 3)).ownsRow B 36 1 v gs.length (gs.map (wrapF B)) := h.own.alloc _
  have key : ∀ (g : Nat) (cs : Array Value) (ty : Nat), (w.alloc (.cells #[.int .i64 a] 3)).heap[g]? = some (.cells cs ty (0, 0)) → 36 ≠ ty → w1.heap[g]? = some (.cells cs ty (0, 0)) := fun g cs ty hc hne => blk_grown hc hg (own_ne hoA hc hne)
  refine ⟨key _ _ _ (keep_alloc _ _ _ _ h.gt) (by decide), ho, by rw [he]; simp [h.box.1], fun i x g h1 h2 => ?_⟩
  subst he
  by_cases c : i < gs.length
  · rw [List.getElem?_append_left (by rw [h.box.1]; exact c)] at h1
    rw [List.getElem?_append_left c] at h2
    exact key _ _ _ (keep_alloc _ _ _ _ (h.box.2 i x g h1 h2)) (by decide)
  · have hi : i = gs.length := by
      have := (List.getElem?_eq_some_iff.1 h2).1
      simp at this
      omega
    subst hi
    rw [List.getElem?_append_right (Nat.le_refl _), Nat.sub_self] at h2
    rw [List.getElem?_append_right (by rw [h.box.1]; exact Nat.le_refl _), h.box.1, Nat.sub_self] at h1
    simp at h1 h2
    subst h1
    subst h2
    exact key _ _ _ (heap_alloc_new _ _) (by decide)
theorem take_rd (l : List Int) (i : Nat) (h : i < l.length) : l.take (i + 1) = l.take i ++ [rd l (i : Int)] := by
  rw [List.take_succ_eq_append_getElem h]
  simp [rd, List.getD_eq_getElem?_getD, List.getElem?_eq_getElem h]
set_option maxHeartbeats 4000000 in
set_option maxRecDepth 100000 in
theorem noting_any (t : Nat) (A0 : Option Addr) (c0 : Nat) (l0 : List Int) (w : World) (hr0 : Kd.C (Kd.int .i64) w A0 l0.length l0) (hc0 : l0.length ≤ c0) (hl : l0.length ≤ 100) :
    Calls Try.prog 8 #[ptr t, .slice A0 l0.length c0] w fun e w' => ∃ (A : Option Addr) (c : Nat) (gs : List Nat), e = .returned (.slice A gs.length c) ∧ Made t w.heap.size l0 w' (.slice A gs.length c) gs ∧ Below w.heap.size w w' := by
  have hmf : ∀ (fn : Fn) (first cap : Array Value) (w : World), (Instr.makeFunc fn first cap).run Try.prog w = .ok (.func fn first cap) w := fun _ _ _ _ => rfl
  have HR := Aside0.mk hr0
  have HB := Aside0.mk ((Below.refl w.heap.size w).alloc (Nat.le_refl _) (.cells #[ptr t] 33))
  have HM : Aside0 (Made t w.heap.size (l0.take 0) (w.alloc (.cells #[ptr t] 33)) (.slice none 0 0) []) := ⟨heap_alloc_new _ _, own_nil _ _ _ _, by simp, fun i a g h1 h2 => by simp at h2⟩
  obtain ⟨n, hn⟩ : ∃ n, n = l0.length := ⟨_, rfl⟩
  have HN := Aside0.mk hn
  have hn1 : n ≤ 100 := by rw [hn]; exact hl
  rw [← hn]
  clear hr0 hl hn
  show Calls Try.prog 8 #[.pointer (some ⟨t, 0, none⟩), .slice A0 n c0] w _
  change Aside0 (Below w.heap.size w (w.alloc (.cells #[.pointer (some ⟨t, 0, none⟩)] 33))) at HB
  change Aside0 (Made t w.heap.size (l0.take 0) (w.alloc (.cells #[.pointer (some ⟨t, 0, none⟩)] 33)) (.slice none 0 0) []) at HM
  go_enter Try.func8, Try.ntmps8
  go_wp2_with fail
  go_loopg [10, 5] n (fun gk s10 s5 wr => ∃ (i : Nat) (A : Option Addr) (c : Nat) (gs : List Nat), s10 = .int .i64 (i : Int) ∧ s5 = .slice A i c ∧ Aside0 (Below w.heap.size w wr) ∧ Aside0 (gs.length = i) ∧ Aside0 (i ≤ n) ∧ Aside0 (Made t w.heap.size (l0.take i) wr (.slice A i c) gs) ∧ Aside0 (n - i ≤ gk))
  case atStart => exact ⟨0, none, 0, [], rfl, rfl, HB, ⟨rfl⟩, ⟨Nat.zero_le _⟩, HM, ⟨Nat.le_refl _⟩⟩
  case round =>
    clear HB HM
    obtain ⟨i, A, c, gs, rfl, rfl, HB, HL, HI, HM, HG⟩ := hrel
    by_cases hi : i < n
    · have e1 : decide (i < n) = true := decide_eq_true hi
      obtain ⟨a, ha⟩ : ∃ a, a = rd l0 (i : Int) := ⟨_, rfl⟩
      have HA := Aside0.mk ha
      obtain ⟨ad, eA, hx⟩ := Kd.at_int HR.out (i : Int) (by omega) (by rw [← HN.out]; omega)
      rw [← ha] at hx
      subst eA
      have hx2 := (HB.out.cell (World.block_lt_of_cell? w _ hx)).trans hx
      rw [Int.toNat_natCast] at hx2
      clear hx ha
      go_upto_region 5 with fail
      clear hx2
      obtain ⟨gs', hgs⟩ : ∃ g, g = gs ++ [wr.heap.size] := ⟨_, rfl⟩
      have HGS := Aside0.mk hgs
      have HO : Aside0 ((wr.alloc (.cells #[.int .i64 a] 3)).ownsRow w.heap.size 36 1 (.slice A i c) (gs.map (wrapF w.heap.size)).length (gs.map (wrapF w.heap.size))) := ⟨by
        rw [List.length_map]
        exact HM.out.own.alloc _⟩
      have HGL : Aside0 ((gs.map (wrapF w.heap.size)).length ≤ 100) := ⟨by rw [List.length_map, HL.out]; omega⟩
      have HI2 := Aside0.mk hi
      clear hgs
      go_wp2_with ((with_reducible refine gate_dst (N := 17) rfl ?_); refine print_append (w0 := w) (W := wr.alloc (.cells #[.int .i64 a] 3)) w.heap.size rfl (.tmp 14) (.tmp 16) 28 36 .nilFunc 8 rfl Try.underlying28 info36 rfl (by decide) (.slice A i c) (gs.map (wrapF w.heap.size)) (wrapF w.heap.size wr.heap.size) rfl (by rw [World.size_alloc]; rfl) rfl HO.out (HB.out.alloc HB.out.size _) (by have := HB.out.size; simp; omega) (by have := HGL.out; omega) ?_; intro v1 w1 ho1 hb1 hg1 hat1; (replace ho1 : w1.ownsRow w.heap.size 36 1 v1 (i + 1) (gs'.map (wrapF w.heap.size)) := by rw [HGS.out]; simpa [HL.out] using ho1); obtain ⟨A1, c1, rfl⟩ := own_slice ho1; have HM2 := Aside0.mk (Made.step HM.out HGS.out hg1 (by rw [show gs'.length = i + 1 by rw [HGS.out]; simp [HL.out]]; exact ho1)); have HB2 := Aside0.mk hb1; clear ho1 hb1 hg1 hat1)
      go_roundg (n - (i + 1))
      case measure => have := HG.out; have := HI2.out; omega
      case rel => exact ⟨i + 1, A1, c1, gs', by go_num, rfl, HB2, ⟨by rw [HGS.out]; simp [HL.out]⟩, ⟨by have := HI2.out; omega⟩, ⟨by rw [take_rd l0 i (by rw [← HN.out]; exact HI2.out), ← HA.out]; exact HM2.out⟩, ⟨Nat.le_refl _⟩⟩
    · have e1 : decide (i < n) = false := decide_eq_false hi
      have HE : Aside0 (i = n) := ⟨by have := HI.out; omega⟩
      clear hi
      go_wp2_with fail
      go_ret
      have hm := HM.out
      have hgl := HL.out
      refine ⟨A, c, gs, by rw [hgl]; rfl, ?_, HB.out⟩
      rw [hgl]
      rw [HE.out, HN.out, List.take_length, ← HN.out, ← HE.out] at hm
      exact hm
end Go.Proofs.Ytlnidaidpdbaiaa.Ch
