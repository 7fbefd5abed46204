/- Package time's Truncate and the thin package's moments over UTC, by hand: what each answers; what they lay in memory is new. -/
import Derived.Test.YtlgdaegaahnkbaaTimeD
namespace Go.Proofs.Ytlgdaegaahnkbaa.Tm
open Go Go.RowKit Cal MC
open Go.Proofs.YtlgdaegaahnkbaaW.PrintWords
set_option linter.unusedVariables false
set_option linter.unusedSimpArgs false
def DivPost (r : Int) (W : World) (e : Ending) (w' : World) : Prop := ∃ q : Int, e = .returned (.tuple #[.int .i64 q, .int .i64 r]) ∧ Below W.heap.size W w'
set_option maxRecDepth 100000 in
theorem div60_any (s : Int) (w : World) (s0 : 0 ≤ s) (s1 : s ≤ 400000000000) :
    Calls Try.prog 129 #[.agg #[.int .u64 0, .int .i64 s, .pointer none], .int .i64 60000000000] w (DivPost (s % 60 * 1000000000) w) := by
  have z0 : (0 : Int) ≤ 0 := by decide
  have z1 : (0 : Int) < 1000000000 := by decide
  go_enter Try.func129, Try.ntmps129
  go_wp2_with (first | (go_at_call 77; (with_reducible refine (nsec_new1 0 s w z0 z1).mono ?_); rintro e w' ⟨rfl, rfl⟩) | (go_at_call 92; (with_reducible refine (sec_new1 0 s w z0 z1).mono ?_); rintro e w' ⟨rfl, rfl⟩))
  go_ret2
  exact ⟨_, rfl, (Below.refl _ _).alloc (Nat.le_refl _) _⟩
set_option maxRecDepth 100000 in
theorem div1_any (s : Int) (w : World) (s0 : 0 ≤ s) (s1 : s ≤ 400000000000) :
    Calls Try.prog 129 #[.agg #[.int .u64 0, .int .i64 s, .pointer none], .int .i64 1000000000] w (DivPost 0 w) := by
  have z0 : (0 : Int) ≤ 0 := by decide
  have z1 : (0 : Int) < 1000000000 := by decide
  go_enter Try.func129, Try.ntmps129
  go_wp2_with (first | (go_at_call 77; (with_reducible refine (nsec_new1 0 s w z0 z1).mono ?_); rintro e w' ⟨rfl, rfl⟩) | (go_at_call 92; (with_reducible refine (sec_new1 0 s w z0 z1).mono ?_); rintro e w' ⟨rfl, rfl⟩))
  go_ret2
  exact ⟨_, rfl, (Below.refl _ _).alloc (Nat.le_refl _) _⟩
theorem stripMono_new (n s : Int) (w : World) (B : Obj) (h0 : 0 ≤ n) (h1 : n < 1000000000) :
    Calls Try.prog 91 #[.pointer (some ⟨w.heap.size, 0, none⟩)] ((w.alloc (.cells #[.int .u64 n, .int .i64 s, .pointer none] 70)).alloc B) fun e w' => e = .returned (.tuple #[]) ∧ (w.alloc (.cells #[.int .u64 n, .int .i64 s, .pointer none] 70)).alloc B = w' :=
  stripMono_any _ n _ h0 h1 (cell_alloc B (by go_simp))
set_option maxRecDepth 100000 in
theorem trunc60_any (x : Int) (w : World) (hx : Dom x) :
    Calls Try.prog 125 #[.agg #[.int .u64 0, .int .i64 (sec x), .pointer none], .int .i64 60000000000] w (Post (x - x % 60) w) := by
  have h : Calls Try.prog 125 #[.agg #[.int .u64 0, .int .i64 (sec x), .pointer none], .int .i64 60000000000] w fun e w' => e = .returned (.agg #[.int .u64 0, .int .i64 (sec (x - x % 60)), .pointer none]) ∧ Below w.heap.size w w' := by
    have HX := Aside0.mk hx
    have hI := Aside0.mk (ad_start w #[.int .u64 0, .int .i64 (sec x), .pointer none] #[.int .u64 0, .int .i64 0, .pointer none])
    have hadd : ∀ W, Calls Try.prog 114 #[.agg #[.int .u64 0, .int .i64 (sec x), .pointer none], .int .i64 (-(sec x % 60 * 1000000000))] W fun e w' => e = .returned (.agg #[.int .u64 0, .int .i64 (sec (x - x % 60)), .pointer none]) ∧ Below W.heap.size W w' := fun W => by
      have := add_any (sec x) (-(sec x % 60 * 1000000000)) (-(sec x % 60)) W hx.s0 hx.s1 (by omega) (by omega) (by omega)
      rwa [show sec x + -(sec x % 60) = sec (x - x % 60) by unfold sec; omega] at this
    have HA := Aside0.mk hadd
    have z0 : (0 : Int) ≤ 0 := by decide
    have z1 : (0 : Int) < 1000000000 := by decide
    have b0 : 0 ≤ sec x % 60 * 1000000000 := by omega
    have b1 : sec x % 60 * 1000000000 ≤ 60000000000 := by omega
    have wn : wrap64 (-(sec x % 60 * 1000000000)) = -(sec x % 60 * 1000000000) := by unfold wrap64; omega
    clear hadd hx
    go_enter Try.func125, Try.ntmps125
    go_wp2_with (first | (go_at_call 91; (with_reducible refine (stripMono_new 0 (sec x) w _ z0 z1).mono ?_); rintro e w' ⟨rfl, rfl⟩) | (go_at_call 129; (with_reducible refine (div60_any (sec x) _ HX.out.s0 HX.out.s1).mono ?_); rintro e w1 ⟨q, rfl, hb⟩; have hI := Aside0.mk (hI.out.below hb); clear hb; have t0 : w1.cell? ⟨w.heap.size, 0, none⟩ = some (.int .u64 0) := (blk_cell hI.out.T 0).trans rfl; have t1 : w1.cell? ⟨w.heap.size, 1, none⟩ = some (.int .i64 (sec x)) := (blk_cell hI.out.T 1).trans rfl; have t2 : w1.cell? ⟨w.heap.size, 2, none⟩ = some (.pointer none) := (blk_cell hI.out.T 2).trans rfl) | (go_at_call 114; (with_reducible refine (HA.out _).mono ?_); rintro e w2 ⟨rfl, hb⟩; have hI := Aside0.mk (hI.out.below hb); clear hb t0 t1 t2; have u0 : w2.cell? ⟨w.heap.size + 1, 0, none⟩ = some (.int .u64 0) := (blk_cell hI.out.R 0).trans rfl; have u1 : w2.cell? ⟨w.heap.size + 1, 1, none⟩ = some (.int .i64 0) := (blk_cell hI.out.R 1).trans rfl; have u2 : w2.cell? ⟨w.heap.size + 1, 2, none⟩ = some (.pointer none) := (blk_cell hI.out.R 2).trans rfl; have f0 := blk_frozen hI.out.R 0; have f1 := blk_frozen hI.out.R 1; have f2 := blk_frozen hI.out.R 2))
    have hI := Aside0.mk (hI.out.setR (.int .u64 0) (.int .i64 (sec (x - x % 60))) (.pointer none))
    clear u0 u1 u2 f0 f1 f2
    generalize hg : World.setCell _ _ (.pointer none) = w7 at hI ⊢
    have r0 : w7.cell? ⟨w.heap.size + 1, 0, none⟩ = some (.int .u64 0) := (blk_cell hI.out.R 0).trans rfl
    have r1 : w7.cell? ⟨w.heap.size + 1, 1, none⟩ = some (.int .i64 (sec (x - x % 60))) := (blk_cell hI.out.R 1).trans rfl
    have r2 : w7.cell? ⟨w.heap.size + 1, 2, none⟩ = some (.pointer none) := (blk_cell hI.out.R 2).trans rfl
    exact bodyPost_ret (v := .agg #[.int .u64 0, .int .i64 (sec (x - x % 60)), .pointer none]) (by simp [results, Try.results125, go_sem, r0, r1, r2]) rfl ⟨rfl, hI.out.B⟩
  exact h.mono fun _ _ h => h
set_option maxRecDepth 100000 in
theorem trunc1_any (x : Int) (w : World) (hx : Dom x) :
    Calls Try.prog 125 #[.agg #[.int .u64 0, .int .i64 (sec x), .pointer none], .int .i64 1000000000] w (Post (x) w) := by
  have h : Calls Try.prog 125 #[.agg #[.int .u64 0, .int .i64 (sec x), .pointer none], .int .i64 1000000000] w fun e w' => e = .returned (.agg #[.int .u64 0, .int .i64 (sec (x)), .pointer none]) ∧ Below w.heap.size w w' := by
    have HX := Aside0.mk hx
    have hI := Aside0.mk (ad_start w #[.int .u64 0, .int .i64 (sec x), .pointer none] #[.int .u64 0, .int .i64 0, .pointer none])
    have hadd : ∀ W, Calls Try.prog 114 #[.agg #[.int .u64 0, .int .i64 (sec x), .pointer none], .int .i64 0] W fun e w' => e = .returned (.agg #[.int .u64 0, .int .i64 (sec (x)), .pointer none]) ∧ Below W.heap.size W w' := fun W => by
      have := add_any (sec x) 0 0 W hx.s0 hx.s1 (by omega) (by omega) (by omega)
      rwa [show sec x + 0 = sec (x) by unfold sec; omega] at this
    have HA := Aside0.mk hadd
    have z0 : (0 : Int) ≤ 0 := by decide
    have z1 : (0 : Int) < 1000000000 := by decide
    have wn : wrap64 0 = 0 := by unfold wrap64; omega
    clear hadd hx
    go_enter Try.func125, Try.ntmps125
    go_wp2_with (first | (go_at_call 91; (with_reducible refine (stripMono_new 0 (sec x) w _ z0 z1).mono ?_); rintro e w' ⟨rfl, rfl⟩) | (go_at_call 129; (with_reducible refine (div1_any (sec x) _ HX.out.s0 HX.out.s1).mono ?_); rintro e w1 ⟨q, rfl, hb⟩; have hI := Aside0.mk (hI.out.below hb); clear hb; have t0 : w1.cell? ⟨w.heap.size, 0, none⟩ = some (.int .u64 0) := (blk_cell hI.out.T 0).trans rfl; have t1 : w1.cell? ⟨w.heap.size, 1, none⟩ = some (.int .i64 (sec x)) := (blk_cell hI.out.T 1).trans rfl; have t2 : w1.cell? ⟨w.heap.size, 2, none⟩ = some (.pointer none) := (blk_cell hI.out.T 2).trans rfl) | (go_at_call 114; (with_reducible refine (HA.out _).mono ?_); rintro e w2 ⟨rfl, hb⟩; have hI := Aside0.mk (hI.out.below hb); clear hb t0 t1 t2; have u0 : w2.cell? ⟨w.heap.size + 1, 0, none⟩ = some (.int .u64 0) := (blk_cell hI.out.R 0).trans rfl; have u1 : w2.cell? ⟨w.heap.size + 1, 1, none⟩ = some (.int .i64 0) := (blk_cell hI.out.R 1).trans rfl; have u2 : w2.cell? ⟨w.heap.size + 1, 2, none⟩ = some (.pointer none) := (blk_cell hI.out.R 2).trans rfl; have f0 := blk_frozen hI.out.R 0; have f1 := blk_frozen hI.out.R 1; have f2 := blk_frozen hI.out.R 2))
    have hI := Aside0.mk (hI.out.setR (.int .u64 0) (.int .i64 (sec (x))) (.pointer none))
    clear u0 u1 u2 f0 f1 f2
    generalize hg : World.setCell _ _ (.pointer none) = w7 at hI ⊢
    have r0 : w7.cell? ⟨w.heap.size + 1, 0, none⟩ = some (.int .u64 0) := (blk_cell hI.out.R 0).trans rfl
    have r1 : w7.cell? ⟨w.heap.size + 1, 1, none⟩ = some (.int .i64 (sec (x))) := (blk_cell hI.out.R 1).trans rfl
    have r2 : w7.cell? ⟨w.heap.size + 1, 2, none⟩ = some (.pointer none) := (blk_cell hI.out.R 2).trans rfl
    exact bodyPost_ret (v := .agg #[.int .u64 0, .int .i64 (sec (x)), .pointer none]) (by simp [results, Try.results125, go_sem, r0, r1, r2]) rfl ⟨rfl, hI.out.B⟩
  exact h.mono fun _ _ h => h
end Go.Proofs.Ytlgdaegaahnkbaa.Tm
