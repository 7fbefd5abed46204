/- Wrappers put together, and a job put into them: NewChain, Then, by hand. -/
import Derived.Test.YtlnidaidpdbaiaaChnB
namespace Go.Proofs.Ytlnidaidpdbaiaa.Ch
open Go Go.RowKit MC
open Go.Proofs.YtlnidaidpdbaiaaW.PrintWords Go.Proofs.YtlnidaidpdbaiaaW.PrintLast Go.Proofs.YtlnidaidpdbaiaaW.PrintMore
set_option linter.unusedVariables false
set_option linter.unusedSimpArgs false
/-- One wrapper over a job. -/
theorem wrap_any (J : Value) (gt gw : Nat) (w : World) : Calls Try.prog 11 #[.iface 35 J, ptr gt, ptr gw] w fun e w' => e = .returned (.iface 35 (.func (.func 12) #[] #[ptr gt, ptr gw, ptr w.heap.size])) ∧ w' = w.alloc (.cells #[.iface 35 J] 27) := by
  have hmf : ∀ (fn : Fn) (first cap : Array Value) (w : World), (Instr.makeFunc fn first cap).run Try.prog w = .ok (.func fn first cap) w := fun _ _ _ _ => rfl
  show Calls Try.prog 11 #[.iface 35 J, .pointer (some ⟨gt, 0, none⟩), .pointer (some ⟨gw, 0, none⟩)] w fun e w' => e = .returned (.iface 35 (.func (.func 12) #[] #[.pointer (some ⟨gt, 0, none⟩), .pointer (some ⟨gw, 0, none⟩), .pointer (some ⟨w.heap.size, 0, none⟩)])) ∧ w' = w.alloc (.cells #[.iface 35 J] 27)
  go_enter Try.func11, Try.ntmps11
  go_wp2_with fail
  go_ret
  exact ⟨rfl, rfl⟩
theorem chain_any (A : Option Addr) (n c : Nat) (w : World) : Calls Try.prog 7 #[.slice A n c] w fun e w' => e = .returned (.agg #[.slice A n c]) ∧ Below w.heap.size w w' := by
  go_enter Try.func7, Try.ntmps7
  go_wp2_with fail
  exact bodyPost_ret (v := .agg #[.slice A n c]) (by simp [results, Try.results7, go_sem]) rfl ⟨rfl, (Below.refl _ _).alloc (Nat.le_refl _) _⟩
theorem own_some {w : World} {base n c n2 size : Nat} {e : TypeId} {A : Option Addr} {xs : List Value} (h : w.ownsRow base e size (.slice A n c) n2 xs) (hn : 0 < n2) : ∃ g, A = some ⟨g, 0, none⟩ := by
  rcases h.2 with ⟨h1, h2⟩ | ⟨g, cap, cur, h1, _⟩
  · omega
  · injection h1 with h1
    exact ⟨g, h1⟩
def wrapF (gt gw : Nat) : Value := .func (.func 11) #[] #[.pointer (some ⟨gt, 0, none⟩), .pointer (some ⟨gw, 0, none⟩)]
/-- The boxes of the wrappers' numbers. -/
def Wr (w : World) (l : List Int) (gs : List Nat) : Prop := l.length = gs.length ∧ ∀ (i : Nat) (a : Int) (g : Nat), l[i]? = some a → gs[i]? = some g → w.heap[g]? = some (.cells #[.int .i64 a] 3 (0, 0))
theorem Wr.keep {w w' : World} {l : List Int} {gs : List Nat} (h : Wr w l gs) (hk : ∀ (g : Nat) (o : Obj), w.heap[g]? = some o → w'.heap[g]? = some o) : Wr w' l gs := ⟨h.1, fun i a g h1 h2 => hk _ _ (h.2 i a g h1 h2)⟩
theorem Job.mono {t B B' : Nat} {w w' : World} (hB : B ≤ B') (hk : ∀ (g : Nat) (o : Obj), w.heap[g]? = some o → w'.heap[g]? = some o) : ∀ {l : List Int} {J : Value}, Job t B w l J → Job t B' w' l J
  | [], J, h => h
  | a :: r, J, h => by
    obtain ⟨gt, gw, gj, J', e, hb, h1, h2, h3, h4⟩ := h
    exact ⟨gt, gw, gj, J', e, ⟨by omega, by omega, by omega⟩, hk _ _ h1, hk _ _ h2, hk _ _ h3, Job.mono hB hk h4⟩
theorem keep_alloc (w : World) (ob : Obj) (g : Nat) (o : Obj) (h : w.heap[g]? = some o) : (w.alloc ob).heap[g]? = some o := by
  rw [Below.heap_alloc _ _ _ (blk_lt h)]
  exact h
theorem keep_below {w w' : World} (hb : Below w.heap.size w w') (g : Nat) (o : Obj) (h : w.heap[g]? = some o) : w'.heap[g]? = some o := (hb.block g (blk_lt h)).trans h
/-- One wrapper more. -/
theorem Job.wrap {t : Nat} {w : World} {l : List Int} {J : Value} {gt gw : Nat} {a : Int} (h : Job t w.heap.size w l J) (h1 : w.heap[gt]? = some (.cells #[ptr t] 33 (0, 0))) (h2 : w.heap[gw]? = some (.cells #[.int .i64 a] 3 (0, 0))) :
    Job t (w.alloc (.cells #[.iface 35 J] 27)).heap.size (w.alloc (.cells #[.iface 35 J] 27)) (a :: l) (.func (.func 12) #[] #[ptr gt, ptr gw, ptr w.heap.size]) :=
  ⟨gt, gw, w.heap.size, J, rfl, ⟨by have := blk_lt h1; simp; omega, by have := blk_lt h2; simp; omega, by simp⟩, keep_alloc _ _ _ _ h1, keep_alloc _ _ _ _ h2, heap_alloc_new _ _, h.mono (by simp) (keep_alloc _ _)⟩
set_option maxHeartbeats 4000000 in
set_option maxRecDepth 100000 in
/-- A job put into wrappers, the last one first. -/
theorem then_any (t gt : Nat) (l : List Int) (gs : List Nat) (A : Option Addr) (c b0 : Nat) (w : World) (hr : w.ownsRow b0 36 1 (.slice A gs.length c) gs.length (gs.map (wrapF gt))) (hgt : w.heap[gt]? = some (.cells #[ptr t] 33 (0, 0))) (hW : Wr w l gs) (hl : l.length ≤ 100) :
    Calls Try.prog 9 #[.agg #[.slice A gs.length c], .iface 35 (.func (.func 10) #[] #[ptr t])] w fun e w' => ∃ J, e = .returned (.iface 35 J) ∧ Job t w'.heap.size w' l J ∧ Below w.heap.size w w' := by
  obtain ⟨n, hn⟩ : ∃ n, n = gs.length := ⟨_, rfl⟩
  rw [← hn] at hr ⊢
  have HN := Aside0.mk hn
  have HR := Aside0.mk hr
  have HGT := Aside0.mk hgt
  have HW := Aside0.mk hW
  have hn1 : n ≤ 100 := by rw [hn, ← hW.1]; exact hl
  have HB := Aside0.mk ((Below.refl w.heap.size w).alloc (Nat.le_refl _) (.cells #[.slice A n c] 30))
  have H3 : Aside0 ((w.alloc (.cells #[.slice A n c] 30)).heap[w.heap.size]? = some (.cells #[.slice A n c] 30 (0, 0))) := ⟨heap_alloc_new _ _⟩
  have c3 := (blk_cell H3.out 0).trans (show _ = some (Value.slice A n c) from rfl)
  have HJ : Aside0 (Job t (w.alloc (.cells #[.slice A n c] 30)).heap.size (w.alloc (.cells #[.slice A n c] 30)) (l.drop (n - 0)) (.func (.func 10) #[] #[ptr t])) := ⟨by
    rw [Nat.sub_zero, List.drop_of_length_le (by rw [hW.1, hn]; exact Nat.le_refl _)]
    rfl⟩
  clear hr hgt hW hl hn
  generalize hJ0 : Value.func (.func 10) #[] #[ptr t] = J0 at HJ ⊢
  clear hJ0
  go_enter Try.func9, Try.ntmps9
  go_wp2_with fail
  clear c3
  go_loopg [9, 1] n (fun gk s9 s1 wr => ∃ (i : Nat) (J : Value), s9 = .int .i64 (i : Int) ∧ s1 = .iface 35 J ∧ Aside0 (Below w.heap.size w wr) ∧ Aside0 (wr.heap[w.heap.size]? = some (.cells #[.slice A n c] 30 (0, 0))) ∧ Aside0 (i ≤ n) ∧ Aside0 (Job t wr.heap.size wr (l.drop (n - i)) J) ∧ Aside0 (n - i ≤ gk))
  case atStart => exact ⟨0, J0, rfl, rfl, HB, H3, ⟨Nat.zero_le _⟩, HJ, ⟨Nat.le_refl _⟩⟩
  case round =>
    clear HB H3 HJ
    obtain ⟨i, J, rfl, rfl, HB, H3, HI, HJ, HG⟩ := hrel
    have c3 := (blk_cell H3.out 0).trans (show _ = some (Value.slice A n c) from rfl)
    by_cases hi : i < n
    · have e1 : decide (i < n) = true := decide_eq_true hi
      have hgl : gs.length = n := HN.out.symm
      have hll : l.length = n := by rw [HW.out.1, hgl]
      obtain ⟨k, hk⟩ : ∃ k, k = n - i - 1 := ⟨_, rfl⟩
      obtain ⟨gw, hgw⟩ : ∃ gw, gs[k]? = some gw := ⟨gs[k], List.getElem?_eq_getElem (by omega)⟩
      obtain ⟨a, ha⟩ : ∃ a, l[k]? = some a := ⟨l[k], List.getElem?_eq_getElem (by omega)⟩
      have hbox := HW.out.2 k a gw ha hgw
      obtain ⟨g, rfl⟩ := own_some HR.out (by omega)
      have hR2 := pw_own_below HR.out HB.out
      have ce : wr.cell? ⟨g, n - i - 1, none⟩ = some (.func (.func 11) #[] #[.pointer (some ⟨gt, 0, none⟩), .pointer (some ⟨gw, 0, none⟩)]) := by
        rw [World.ownsRow.cellAt hR2 (n - i - 1) (by omega), ← hk, List.getElem?_map, hgw]
        rfl
      have HJ2 : Aside0 (Job t (wr.alloc (.cells #[.iface 35 J] 27)).heap.size (wr.alloc (.cells #[.iface 35 J] 27)) (l.drop (n - (i + 1))) (.func (.func 12) #[] #[ptr gt, ptr gw, ptr wr.heap.size])) := ⟨by
        have := HJ.out.wrap (keep_below HB.out _ _ HGT.out) (keep_below HB.out _ _ hbox)
        rw [show n - (i + 1) = k by omega, List.drop_eq_getElem_cons (show k < l.length by omega), show k + 1 = n - i by omega]
        rw [List.getElem?_eq_getElem (by omega)] at ha
        rw [Option.some.inj ha]
        exact this⟩
      have HI2 := Aside0.mk hi
      clear hgl hll hk hgw ha hbox hR2
      go_wp2_with (go_at_call 11; refine (wrap_any J gt gw _).mono ?_; rintro e w5 ⟨rfl, rfl⟩)
      go_roundg (n - (i + 1))
      case measure => have := HG.out; have := HI2.out; omega
      case rel => exact ⟨i + 1, _, by go_num, rfl, ⟨HB.out.alloc HB.out.size _⟩, ⟨keep_alloc _ _ _ _ H3.out⟩, ⟨by have := HI2.out; omega⟩, HJ2, ⟨Nat.le_refl _⟩⟩
    · have e1 : decide (i < n) = false := decide_eq_false hi
      have HE : Aside0 (i = n) := ⟨by have := HI.out; omega⟩
      clear hi
      go_wp2_with fail
      go_ret
      refine ⟨J, rfl, ?_, HB.out⟩
      have := HJ.out
      rw [HE.out, Nat.sub_self, List.drop_zero] at this
      exact this
end Go.Proofs.Ytlnidaidpdbaiaa.Ch
