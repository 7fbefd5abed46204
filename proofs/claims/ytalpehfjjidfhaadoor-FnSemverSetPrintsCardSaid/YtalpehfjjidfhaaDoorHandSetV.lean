/- What is proved: by hand, the thin package's setters, increments and printing of a version. -/
import Derived.Test.YtalpehfjjidfhaaDoorHandSet
namespace Go.Proofs.YtalpehfjjidfhaaDoor.MS
open Go Go.RowKit Sv Hand
open Go.Proofs.YtalpehfjjidfhaaDoorW.PrintWords Go.Proofs.YtalpehfjjidfhaaDoorW.PrintLast Go.Proofs.YtalpehfjjidfhaaDoorW.PrintMore
open Go.Proofs.YtalpehfjjidfhaaDoor.MA (tl okPre identL)
set_option linter.unusedVariables false
set_option linter.unusedSimpArgs false
theorem VO_of {w : World} {N : Nat} {M m t : Int} {u v o : ByteArray} (h : w.heap[N]? = some (.cells #[.int .u64 M, .int .u64 m, .int .u64 t, .string u, .string v, .string o] 97 (0, 0))) : VO w N M m t u v o := by
  refine ⟨?_, fun j => blk_frozen h j, (blk_cell h 0).trans rfl, (blk_cell h 1).trans rfl, (blk_cell h 2).trans rfl, (blk_cell h 3).trans rfl, (blk_cell h 4).trans rfl, (blk_cell h 5).trans rfl⟩
  rcases Nat.lt_or_ge N w.heap.size with h' | h'
  · exact h'
  · rw [Array.getElem?_eq_none h'] at h; cases h
theorem heap_two (w : World) (a b : Obj) : ((w.alloc a).alloc b).heap[w.heap.size + 1]? = some b := by
  have := @heap_at (w.alloc a) b
  rw [show (w.alloc a).heap.size = w.heap.size + 1 by simp] at this
  exact this
set_option maxHeartbeats 4000000 in
set_option maxRecDepth 100000 in
theorem VersionSetPre_any (M m t : Nat) (u v p : ByteArray) (hM : M < 18446744073709551616) (hm : m < 18446744073709551616) (ht : t < 18446744073709551616) (hu : u.size ≤ 65536) (hv : v.size ≤ 65536) (hp : p.size ≤ 65536) (hpz : 0 < p.size) (E : Nat → Addr) (hpk : firstK preK (bs (splitD (tl p))) = 0) (w : World) (hT : Tab w) (hE : Ge E [3, 4] w) :
    Calls Tryd.prog 50 #[.agg #[.int .u64 (M : Int), .int .u64 (m : Int), .int .u64 (t : Int), .string u, .string v], .string p] w fun e w' => e = .returned (.tuple #[.agg #[.int .u64 (M : Int), .int .u64 (m : Int), .int .u64 (t : Int), .string p, .string v], .bool true]) ∧ Below w.heap.size w w' := by
  have X := Aside0.mk (fun w1 h1 h2 => setpre_any M m t u v p hM hm ht hu hv hp hpz E hpk w1 h1 h2)
  have HT := Aside0.mk hT
  have HE := Aside0.mk hE
  have BASE := Aside0.mk (((Below.refl _ w).alloc (Nat.le_refl _) (.cells #[.int .u64 (M : Int), .int .u64 (m : Int), .int .u64 (t : Int), .string u, .string v] 29)).alloc (by simp) (.cells #[.int .u64 0, .int .u64 0, .int .u64 0, .string ⟨#[]⟩, .string ⟨#[]⟩] 29))
  have HRB := Aside0.mk (heap_two w (.cells #[.int .u64 (M : Int), .int .u64 (m : Int), .int .u64 (t : Int), .string u, .string v] 29) (.cells #[.int .u64 0, .int .u64 0, .int .u64 0, .string ⟨#[]⟩, .string ⟨#[]⟩] 29))
  generalize verT M m t p v = x at X
  clear hT hE hpk
  go_enter Tryd.func50, Tryd.ntmps50
  go_wp2_with (first | (go_at_call 83; (with_reducible refine (version_any M m t u v _).mono ?_); rintro e w1 ⟨N, rfl, hV, hb1, hz1⟩; have hB1 := Aside0.mk (BASE.out.trans (hb1.mono (by simp; omega))); obtain ⟨c0, c1, c2, c3, c4, c5⟩ := hV.cells; have HR1 := Aside0.mk (blk_below HRB.out hb1); clear hV hb1 hz1 HRB) | (go_at_call 102; (with_reducible refine (X.out _ (HT.out.below hB1.out) (HE.out.below hB1.out)).mono ?_); rintro e w2 ⟨rfl, hb2⟩; have hB2 := Aside0.mk (hB1.out.trans (hb2.mono hB1.out.size)); have HR2 := Aside0.mk (blk_below HR1.out hb2); clear c0 c1 c2 c3 c4 c5 hb2 hB1 HR1))
  refine (read_ok _ _ _ _ _ x _ _ (VO_of (heap_at _))).mono ?_
  rintro e w3 ⟨rfl, hb3⟩
  have hB3 := Aside0.mk ((hB2.out.alloc hB2.out.size _).trans (hb3.mono (by have := hB2.out.size; simp; omega)))
  have HR3 := Aside0.mk (blk_below (heap_alloc HR2.out) hb3)
  clear hb3 hB2 HR2
  have y0 := blk_frozen HR3.out 0
  have y1 := blk_frozen HR3.out 1
  have y2 := blk_frozen HR3.out 2
  have y3 := blk_frozen HR3.out 3
  have y4 := blk_frozen HR3.out 4
  have r0 : w3.cell? ⟨w.heap.size + 1, 0, none⟩ = some (.int .u64 0) := (blk_cell HR3.out 0).trans rfl
  have r1 : w3.cell? ⟨w.heap.size + 1, 1, none⟩ = some (.int .u64 0) := (blk_cell HR3.out 1).trans rfl
  have r2 : w3.cell? ⟨w.heap.size + 1, 2, none⟩ = some (.int .u64 0) := (blk_cell HR3.out 2).trans rfl
  have r3 : w3.cell? ⟨w.heap.size + 1, 3, none⟩ = some (.string ⟨#[]⟩) := (blk_cell HR3.out 3).trans rfl
  have r4 : w3.cell? ⟨w.heap.size + 1, 4, none⟩ = some (.string ⟨#[]⟩) := (blk_cell HR3.out 4).trans rfl
  go_wp2_with fail
  exact bodyPost_ret (v := .tuple #[.agg #[.int .u64 (M : Int), .int .u64 (m : Int), .int .u64 (t : Int), .string p, .string v], .bool true]) (by simp [results, Tryd.results50, go_sem, r0, r1, r2, r3, r4]) rfl ⟨rfl, ((((hB3.out.setCell (Nat.le_succ _) _).setCell (Nat.le_succ _) _).setCell (Nat.le_succ _) _).setCell (Nat.le_succ _) _).setCell (Nat.le_succ _) _⟩
set_option maxHeartbeats 4000000 in
set_option maxRecDepth 100000 in
theorem VersionSetMeta_any (M m t : Nat) (u v p : ByteArray) (hM : M < 18446744073709551616) (hm : m < 18446744073709551616) (ht : t < 18446744073709551616) (hu : u.size ≤ 65536) (hv : v.size ≤ 65536) (hp : p.size ≤ 65536) (hpz : 0 < p.size) (E : Nat → Addr) (hpk : firstK metaK (bs (splitD (tl p))) = 0) (w : World) (hT : Tab w) (hE : Ge E [5] w) :
    Calls Tryd.prog 51 #[.agg #[.int .u64 (M : Int), .int .u64 (m : Int), .int .u64 (t : Int), .string u, .string v], .string p] w fun e w' => e = .returned (.tuple #[.agg #[.int .u64 (M : Int), .int .u64 (m : Int), .int .u64 (t : Int), .string u, .string p], .bool true]) ∧ Below w.heap.size w w' := by
  have X := Aside0.mk (fun w1 h1 h2 => setmeta_any M m t u v p hM hm ht hu hv hp hpz E hpk w1 h1 h2)
  have HT := Aside0.mk hT
  have HE := Aside0.mk hE
  have BASE := Aside0.mk (((Below.refl _ w).alloc (Nat.le_refl _) (.cells #[.int .u64 (M : Int), .int .u64 (m : Int), .int .u64 (t : Int), .string u, .string v] 29)).alloc (by simp) (.cells #[.int .u64 0, .int .u64 0, .int .u64 0, .string ⟨#[]⟩, .string ⟨#[]⟩] 29))
  have HRB := Aside0.mk (heap_two w (.cells #[.int .u64 (M : Int), .int .u64 (m : Int), .int .u64 (t : Int), .string u, .string v] 29) (.cells #[.int .u64 0, .int .u64 0, .int .u64 0, .string ⟨#[]⟩, .string ⟨#[]⟩] 29))
  generalize verT M m t u p = x at X
  clear hT hE hpk
  go_enter Tryd.func51, Tryd.ntmps51
  go_wp2_with (first | (go_at_call 83; (with_reducible refine (version_any M m t u v _).mono ?_); rintro e w1 ⟨N, rfl, hV, hb1, hz1⟩; have hB1 := Aside0.mk (BASE.out.trans (hb1.mono (by simp; omega))); obtain ⟨c0, c1, c2, c3, c4, c5⟩ := hV.cells; have HR1 := Aside0.mk (blk_below HRB.out hb1); clear hV hb1 hz1 HRB) | (go_at_call 103; (with_reducible refine (X.out _ (HT.out.below hB1.out) (HE.out.below hB1.out)).mono ?_); rintro e w2 ⟨rfl, hb2⟩; have hB2 := Aside0.mk (hB1.out.trans (hb2.mono hB1.out.size)); have HR2 := Aside0.mk (blk_below HR1.out hb2); clear c0 c1 c2 c3 c4 c5 hb2 hB1 HR1))
  refine (read_ok _ _ _ _ _ x _ _ (VO_of (heap_at _))).mono ?_
  rintro e w3 ⟨rfl, hb3⟩
  have hB3 := Aside0.mk ((hB2.out.alloc hB2.out.size _).trans (hb3.mono (by have := hB2.out.size; simp; omega)))
  have HR3 := Aside0.mk (blk_below (heap_alloc HR2.out) hb3)
  clear hb3 hB2 HR2
  have y0 := blk_frozen HR3.out 0
  have y1 := blk_frozen HR3.out 1
  have y2 := blk_frozen HR3.out 2
  have y3 := blk_frozen HR3.out 3
  have y4 := blk_frozen HR3.out 4
  have r0 : w3.cell? ⟨w.heap.size + 1, 0, none⟩ = some (.int .u64 0) := (blk_cell HR3.out 0).trans rfl
  have r1 : w3.cell? ⟨w.heap.size + 1, 1, none⟩ = some (.int .u64 0) := (blk_cell HR3.out 1).trans rfl
  have r2 : w3.cell? ⟨w.heap.size + 1, 2, none⟩ = some (.int .u64 0) := (blk_cell HR3.out 2).trans rfl
  have r3 : w3.cell? ⟨w.heap.size + 1, 3, none⟩ = some (.string ⟨#[]⟩) := (blk_cell HR3.out 3).trans rfl
  have r4 : w3.cell? ⟨w.heap.size + 1, 4, none⟩ = some (.string ⟨#[]⟩) := (blk_cell HR3.out 4).trans rfl
  go_wp2_with fail
  exact bodyPost_ret (v := .tuple #[.agg #[.int .u64 (M : Int), .int .u64 (m : Int), .int .u64 (t : Int), .string u, .string p], .bool true]) (by simp [results, Tryd.results51, go_sem, r0, r1, r2, r3, r4]) rfl ⟨rfl, ((((hB3.out.setCell (Nat.le_succ _) _).setCell (Nat.le_succ _) _).setCell (Nat.le_succ _) _).setCell (Nat.le_succ _) _).setCell (Nat.le_succ _) _⟩
set_option maxHeartbeats 4000000 in
set_option maxRecDepth 100000 in
theorem VersionText_any (M m t : Nat) (u v : ByteArray) (hM : M < 18446744073709551616) (hm : m < 18446744073709551616) (ht : t < 18446744073709551616) (hu : u.size ≤ 65536) (hv : v.size ≤ 65536) (w : World) (hT : Tab w) :
    Calls Tryd.prog 52 #[.agg #[.int .u64 (M : Int), .int .u64 (m : Int), .int .u64 (t : Int), .string u, .string v]] w fun e w' => e = .returned (.string (verT M m t u v)) ∧ Below w.heap.size w w' := by
  have X := Aside0.mk (fun w1 h1 => String_any M m t u v ⟨#[]⟩ hM hm ht (by omega) (by omega) w1 h1)
  have HT := Aside0.mk hT
  have BASE := Aside0.mk ((Below.refl _ w).alloc (Nat.le_refl _) (.cells #[.int .u64 (M : Int), .int .u64 (m : Int), .int .u64 (t : Int), .string u, .string v] 29))
  generalize verT M m t u v = x at X ⊢
  clear hT
  go_enter Tryd.func52, Tryd.ntmps52
  go_wp2_with (first | (go_at_call 83; (with_reducible refine (version_any M m t u v _).mono ?_); rintro e w1 ⟨N, rfl, hV, hb1, hz1⟩; have hB1 := Aside0.mk (BASE.out.trans (hb1.mono (by simp))); obtain ⟨c0, c1, c2, c3, c4, c5⟩ := hV.cells; clear hV hb1 hz1) | (go_at_call 104; (with_reducible refine (X.out _ (HT.out.below hB1.out)).mono ?_); rintro e w2 ⟨rfl, hb2⟩; have hB2 := Aside0.mk (hB1.out.trans (hb2.mono hB1.out.size))))
  go_ret
  exact ⟨rfl, hB2.out⟩
set_option maxHeartbeats 4000000 in
set_option maxRecDepth 100000 in
theorem VersionIncPatch_pre (M m t : Nat) (u v : ByteArray) (hM : M < 18446744073709551616) (hm : m < 18446744073709551616) (ht : t < 18446744073709551616) (hu : u.size ≤ 65536) (hv : v.size ≤ 65536) (eu : u.toList.isEmpty = false) (w : World) (hT : Tab w) :
    Calls Tryd.prog 57 #[.agg #[.int .u64 (M : Int), .int .u64 (m : Int), .int .u64 (t : Int), .string u, .string v]] w fun e w' => e = .returned (.agg #[.int .u64 (M : Int), .int .u64 (m : Int), .int .u64 (t : Int), .string ⟨#[]⟩, .string ⟨#[]⟩]) ∧ Below w.heap.size w w' := by
  have X := Aside0.mk (fun w1 h1 => incpatch_pre M m t u v hM hm ht hu hv eu w1 h1)
  have HT := Aside0.mk hT
  have BASE := Aside0.mk (((Below.refl _ w).alloc (Nat.le_refl _) (.cells #[.int .u64 (M : Int), .int .u64 (m : Int), .int .u64 (t : Int), .string u, .string v] 29)).alloc (by simp) (.cells #[.int .u64 0, .int .u64 0, .int .u64 0, .string ⟨#[]⟩, .string ⟨#[]⟩] 29))
  have HRB := Aside0.mk (heap_two w (.cells #[.int .u64 (M : Int), .int .u64 (m : Int), .int .u64 (t : Int), .string u, .string v] 29) (.cells #[.int .u64 0, .int .u64 0, .int .u64 0, .string ⟨#[]⟩, .string ⟨#[]⟩] 29))
  generalize verT M m t ⟨#[]⟩ ⟨#[]⟩ = x at X
  clear hT
  go_enter Tryd.func57, Tryd.ntmps57
  go_wp2_with (first | (go_at_call 83; (with_reducible refine (version_any M m t u v _).mono ?_); rintro e w1 ⟨N, rfl, hV, hb1, hz1⟩; have hB1 := Aside0.mk (BASE.out.trans (hb1.mono (by simp; omega))); obtain ⟨c0, c1, c2, c3, c4, c5⟩ := hV.cells; have HR1 := Aside0.mk (blk_below HRB.out hb1); clear hV hb1 hz1 HRB) | (go_at_call 107; (with_reducible refine (X.out _ (HT.out.below hB1.out)).mono ?_); rintro e w2 ⟨rfl, hb2⟩; have hB2 := Aside0.mk (hB1.out.trans (hb2.mono hB1.out.size)); have HR2 := Aside0.mk (blk_below HR1.out hb2); clear c0 c1 c2 c3 c4 c5 hb2 hB1 HR1))
  refine (plain_any _ _ _ _ _ x _ _ (VO_of (heap_at _))).mono ?_
  rintro e w3 ⟨rfl, hb3⟩
  have hB3 := Aside0.mk ((hB2.out.alloc hB2.out.size _).trans (hb3.mono (by have := hB2.out.size; simp; omega)))
  have HR3 := Aside0.mk (blk_below (heap_alloc HR2.out) hb3)
  clear hb3 hB2 HR2
  have y0 := blk_frozen HR3.out 0
  have y1 := blk_frozen HR3.out 1
  have y2 := blk_frozen HR3.out 2
  have y3 := blk_frozen HR3.out 3
  have y4 := blk_frozen HR3.out 4
  have r0 : w3.cell? ⟨w.heap.size + 1, 0, none⟩ = some (.int .u64 0) := (blk_cell HR3.out 0).trans rfl
  have r1 : w3.cell? ⟨w.heap.size + 1, 1, none⟩ = some (.int .u64 0) := (blk_cell HR3.out 1).trans rfl
  have r2 : w3.cell? ⟨w.heap.size + 1, 2, none⟩ = some (.int .u64 0) := (blk_cell HR3.out 2).trans rfl
  have r3 : w3.cell? ⟨w.heap.size + 1, 3, none⟩ = some (.string ⟨#[]⟩) := (blk_cell HR3.out 3).trans rfl
  have r4 : w3.cell? ⟨w.heap.size + 1, 4, none⟩ = some (.string ⟨#[]⟩) := (blk_cell HR3.out 4).trans rfl
  go_wp2_with fail
  exact bodyPost_ret (v := .agg #[.int .u64 (M : Int), .int .u64 (m : Int), .int .u64 (t : Int), .string ⟨#[]⟩, .string ⟨#[]⟩]) (by simp [results, Tryd.results57, go_sem, r0, r1, r2, r3, r4]) rfl ⟨rfl, ((((hB3.out.setCell (Nat.le_succ _) _).setCell (Nat.le_succ _) _).setCell (Nat.le_succ _) _).setCell (Nat.le_succ _) _).setCell (Nat.le_succ _) _⟩
set_option maxHeartbeats 4000000 in
set_option maxRecDepth 100000 in
theorem VersionIncPatch_rel (M m t : Nat) (u v : ByteArray) (hM : M < 18446744073709551616) (hm : m < 18446744073709551616) (ht : t < 18446744073709551616) (hu : u.size ≤ 65536) (hv : v.size ≤ 65536) (eu : u.toList.isEmpty = true) (hi : t + 1 < 18446744073709551616) (w : World) (hT : Tab w) :
    Calls Tryd.prog 57 #[.agg #[.int .u64 (M : Int), .int .u64 (m : Int), .int .u64 (t : Int), .string u, .string v]] w fun e w' => e = .returned (.agg #[.int .u64 (M : Int), .int .u64 (m : Int), .int .u64 ((t + 1 : Nat) : Int), .string ⟨#[]⟩, .string ⟨#[]⟩]) ∧ Below w.heap.size w w' := by
  have X := Aside0.mk (fun w1 h1 => incpatch_rel M m t u v hM hm ht hu hv eu hi w1 h1)
  have HT := Aside0.mk hT
  have BASE := Aside0.mk (((Below.refl _ w).alloc (Nat.le_refl _) (.cells #[.int .u64 (M : Int), .int .u64 (m : Int), .int .u64 (t : Int), .string u, .string v] 29)).alloc (by simp) (.cells #[.int .u64 0, .int .u64 0, .int .u64 0, .string ⟨#[]⟩, .string ⟨#[]⟩] 29))
  have HRB := Aside0.mk (heap_two w (.cells #[.int .u64 (M : Int), .int .u64 (m : Int), .int .u64 (t : Int), .string u, .string v] 29) (.cells #[.int .u64 0, .int .u64 0, .int .u64 0, .string ⟨#[]⟩, .string ⟨#[]⟩] 29))
  generalize verT M m (t + 1) ⟨#[]⟩ ⟨#[]⟩ = x at X
  clear hT
  go_enter Tryd.func57, Tryd.ntmps57
  go_wp2_with (first | (go_at_call 83; (with_reducible refine (version_any M m t u v _).mono ?_); rintro e w1 ⟨N, rfl, hV, hb1, hz1⟩; have hB1 := Aside0.mk (BASE.out.trans (hb1.mono (by simp; omega))); obtain ⟨c0, c1, c2, c3, c4, c5⟩ := hV.cells; have HR1 := Aside0.mk (blk_below HRB.out hb1); clear hV hb1 hz1 HRB) | (go_at_call 107; (with_reducible refine (X.out _ (HT.out.below hB1.out)).mono ?_); rintro e w2 ⟨rfl, hb2⟩; have hB2 := Aside0.mk (hB1.out.trans (hb2.mono hB1.out.size)); have HR2 := Aside0.mk (blk_below HR1.out hb2); clear c0 c1 c2 c3 c4 c5 hb2 hB1 HR1))
  refine (plain_any _ _ _ _ _ x _ _ (VO_of (heap_at _))).mono ?_
  rintro e w3 ⟨rfl, hb3⟩
  have hB3 := Aside0.mk ((hB2.out.alloc hB2.out.size _).trans (hb3.mono (by have := hB2.out.size; simp; omega)))
  have HR3 := Aside0.mk (blk_below (heap_alloc HR2.out) hb3)
  clear hb3 hB2 HR2
  have y0 := blk_frozen HR3.out 0
  have y1 := blk_frozen HR3.out 1
  have y2 := blk_frozen HR3.out 2
  have y3 := blk_frozen HR3.out 3
  have y4 := blk_frozen HR3.out 4
  have r0 : w3.cell? ⟨w.heap.size + 1, 0, none⟩ = some (.int .u64 0) := (blk_cell HR3.out 0).trans rfl
  have r1 : w3.cell? ⟨w.heap.size + 1, 1, none⟩ = some (.int .u64 0) := (blk_cell HR3.out 1).trans rfl
  have r2 : w3.cell? ⟨w.heap.size + 1, 2, none⟩ = some (.int .u64 0) := (blk_cell HR3.out 2).trans rfl
  have r3 : w3.cell? ⟨w.heap.size + 1, 3, none⟩ = some (.string ⟨#[]⟩) := (blk_cell HR3.out 3).trans rfl
  have r4 : w3.cell? ⟨w.heap.size + 1, 4, none⟩ = some (.string ⟨#[]⟩) := (blk_cell HR3.out 4).trans rfl
  go_wp2_with fail
  exact bodyPost_ret (v := .agg #[.int .u64 (M : Int), .int .u64 (m : Int), .int .u64 ((t + 1 : Nat) : Int), .string ⟨#[]⟩, .string ⟨#[]⟩]) (by simp [results, Tryd.results57, go_sem, r0, r1, r2, r3, r4]) rfl ⟨rfl, ((((hB3.out.setCell (Nat.le_succ _) _).setCell (Nat.le_succ _) _).setCell (Nat.le_succ _) _).setCell (Nat.le_succ _) _).setCell (Nat.le_succ _) _⟩
set_option maxHeartbeats 4000000 in
set_option maxRecDepth 100000 in
theorem VersionIncMinor_any (M m t : Nat) (u v : ByteArray) (hM : M < 18446744073709551616) (hm : m < 18446744073709551616) (ht : t < 18446744073709551616) (hu : u.size ≤ 65536) (hv : v.size ≤ 65536) (hi : m + 1 < 18446744073709551616) (w : World) (hT : Tab w) :
    Calls Tryd.prog 58 #[.agg #[.int .u64 (M : Int), .int .u64 (m : Int), .int .u64 (t : Int), .string u, .string v]] w fun e w' => e = .returned (.agg #[.int .u64 (M : Int), .int .u64 ((m + 1 : Nat) : Int), .int .u64 0, .string ⟨#[]⟩, .string ⟨#[]⟩]) ∧ Below w.heap.size w w' := by
  have X := Aside0.mk (fun w1 h1 => incminor_any M m t u v hM hm ht hu hv hi w1 h1)
  have HT := Aside0.mk hT
  have BASE := Aside0.mk (((Below.refl _ w).alloc (Nat.le_refl _) (.cells #[.int .u64 (M : Int), .int .u64 (m : Int), .int .u64 (t : Int), .string u, .string v] 29)).alloc (by simp) (.cells #[.int .u64 0, .int .u64 0, .int .u64 0, .string ⟨#[]⟩, .string ⟨#[]⟩] 29))
  have HRB := Aside0.mk (heap_two w (.cells #[.int .u64 (M : Int), .int .u64 (m : Int), .int .u64 (t : Int), .string u, .string v] 29) (.cells #[.int .u64 0, .int .u64 0, .int .u64 0, .string ⟨#[]⟩, .string ⟨#[]⟩] 29))
  generalize verT M (m + 1) 0 ⟨#[]⟩ ⟨#[]⟩ = x at X
  clear hT
  go_enter Tryd.func58, Tryd.ntmps58
  go_wp2_with (first | (go_at_call 83; (with_reducible refine (version_any M m t u v _).mono ?_); rintro e w1 ⟨N, rfl, hV, hb1, hz1⟩; have hB1 := Aside0.mk (BASE.out.trans (hb1.mono (by simp; omega))); obtain ⟨c0, c1, c2, c3, c4, c5⟩ := hV.cells; have HR1 := Aside0.mk (blk_below HRB.out hb1); clear hV hb1 hz1 HRB) | (go_at_call 109; (with_reducible refine (X.out _ (HT.out.below hB1.out)).mono ?_); rintro e w2 ⟨rfl, hb2⟩; have hB2 := Aside0.mk (hB1.out.trans (hb2.mono hB1.out.size)); have HR2 := Aside0.mk (blk_below HR1.out hb2); clear c0 c1 c2 c3 c4 c5 hb2 hB1 HR1))
  refine (plain_any _ _ _ _ _ x _ _ (VO_of (heap_at _))).mono ?_
  rintro e w3 ⟨rfl, hb3⟩
  have hB3 := Aside0.mk ((hB2.out.alloc hB2.out.size _).trans (hb3.mono (by have := hB2.out.size; simp; omega)))
  have HR3 := Aside0.mk (blk_below (heap_alloc HR2.out) hb3)
  clear hb3 hB2 HR2
  have y0 := blk_frozen HR3.out 0
  have y1 := blk_frozen HR3.out 1
  have y2 := blk_frozen HR3.out 2
  have y3 := blk_frozen HR3.out 3
  have y4 := blk_frozen HR3.out 4
  have r0 : w3.cell? ⟨w.heap.size + 1, 0, none⟩ = some (.int .u64 0) := (blk_cell HR3.out 0).trans rfl
  have r1 : w3.cell? ⟨w.heap.size + 1, 1, none⟩ = some (.int .u64 0) := (blk_cell HR3.out 1).trans rfl
  have r2 : w3.cell? ⟨w.heap.size + 1, 2, none⟩ = some (.int .u64 0) := (blk_cell HR3.out 2).trans rfl
  have r3 : w3.cell? ⟨w.heap.size + 1, 3, none⟩ = some (.string ⟨#[]⟩) := (blk_cell HR3.out 3).trans rfl
  have r4 : w3.cell? ⟨w.heap.size + 1, 4, none⟩ = some (.string ⟨#[]⟩) := (blk_cell HR3.out 4).trans rfl
  go_wp2_with fail
  exact bodyPost_ret (v := .agg #[.int .u64 (M : Int), .int .u64 ((m + 1 : Nat) : Int), .int .u64 0, .string ⟨#[]⟩, .string ⟨#[]⟩]) (by simp [results, Tryd.results58, go_sem, r0, r1, r2, r3, r4]) rfl ⟨rfl, ((((hB3.out.setCell (Nat.le_succ _) _).setCell (Nat.le_succ _) _).setCell (Nat.le_succ _) _).setCell (Nat.le_succ _) _).setCell (Nat.le_succ _) _⟩
set_option maxHeartbeats 4000000 in
set_option maxRecDepth 100000 in
theorem VersionIncMajor_any (M m t : Nat) (u v : ByteArray) (hM : M < 18446744073709551616) (hm : m < 18446744073709551616) (ht : t < 18446744073709551616) (hu : u.size ≤ 65536) (hv : v.size ≤ 65536) (hi : M + 1 < 18446744073709551616) (w : World) (hT : Tab w) :
    Calls Tryd.prog 59 #[.agg #[.int .u64 (M : Int), .int .u64 (m : Int), .int .u64 (t : Int), .string u, .string v]] w fun e w' => e = .returned (.agg #[.int .u64 ((M + 1 : Nat) : Int), .int .u64 0, .int .u64 0, .string ⟨#[]⟩, .string ⟨#[]⟩]) ∧ Below w.heap.size w w' := by
  have X := Aside0.mk (fun w1 h1 => incmajor_any M m t u v hM hm ht hu hv hi w1 h1)
  have HT := Aside0.mk hT
  have BASE := Aside0.mk (((Below.refl _ w).alloc (Nat.le_refl _) (.cells #[.int .u64 (M : Int), .int .u64 (m : Int), .int .u64 (t : Int), .string u, .string v] 29)).alloc (by simp) (.cells #[.int .u64 0, .int .u64 0, .int .u64 0, .string ⟨#[]⟩, .string ⟨#[]⟩] 29))
  have HRB := Aside0.mk (heap_two w (.cells #[.int .u64 (M : Int), .int .u64 (m : Int), .int .u64 (t : Int), .string u, .string v] 29) (.cells #[.int .u64 0, .int .u64 0, .int .u64 0, .string ⟨#[]⟩, .string ⟨#[]⟩] 29))
  generalize verT (M + 1) 0 0 ⟨#[]⟩ ⟨#[]⟩ = x at X
  clear hT
  go_enter Tryd.func59, Tryd.ntmps59
  go_wp2_with (first | (go_at_call 83; (with_reducible refine (version_any M m t u v _).mono ?_); rintro e w1 ⟨N, rfl, hV, hb1, hz1⟩; have hB1 := Aside0.mk (BASE.out.trans (hb1.mono (by simp; omega))); obtain ⟨c0, c1, c2, c3, c4, c5⟩ := hV.cells; have HR1 := Aside0.mk (blk_below HRB.out hb1); clear hV hb1 hz1 HRB) | (go_at_call 110; (with_reducible refine (X.out _ (HT.out.below hB1.out)).mono ?_); rintro e w2 ⟨rfl, hb2⟩; have hB2 := Aside0.mk (hB1.out.trans (hb2.mono hB1.out.size)); have HR2 := Aside0.mk (blk_below HR1.out hb2); clear c0 c1 c2 c3 c4 c5 hb2 hB1 HR1))
  refine (plain_any _ _ _ _ _ x _ _ (VO_of (heap_at _))).mono ?_
  rintro e w3 ⟨rfl, hb3⟩
  have hB3 := Aside0.mk ((hB2.out.alloc hB2.out.size _).trans (hb3.mono (by have := hB2.out.size; simp; omega)))
  have HR3 := Aside0.mk (blk_below (heap_alloc HR2.out) hb3)
  clear hb3 hB2 HR2
  have y0 := blk_frozen HR3.out 0
  have y1 := blk_frozen HR3.out 1
  have y2 := blk_frozen HR3.out 2
  have y3 := blk_frozen HR3.out 3
  have y4 := blk_frozen HR3.out 4
  have r0 : w3.cell? ⟨w.heap.size + 1, 0, none⟩ = some (.int .u64 0) := (blk_cell HR3.out 0).trans rfl
  have r1 : w3.cell? ⟨w.heap.size + 1, 1, none⟩ = some (.int .u64 0) := (blk_cell HR3.out 1).trans rfl
  have r2 : w3.cell? ⟨w.heap.size + 1, 2, none⟩ = some (.int .u64 0) := (blk_cell HR3.out 2).trans rfl
  have r3 : w3.cell? ⟨w.heap.size + 1, 3, none⟩ = some (.string ⟨#[]⟩) := (blk_cell HR3.out 3).trans rfl
  have r4 : w3.cell? ⟨w.heap.size + 1, 4, none⟩ = some (.string ⟨#[]⟩) := (blk_cell HR3.out 4).trans rfl
  go_wp2_with fail
  exact bodyPost_ret (v := .agg #[.int .u64 ((M + 1 : Nat) : Int), .int .u64 0, .int .u64 0, .string ⟨#[]⟩, .string ⟨#[]⟩]) (by simp [results, Tryd.results59, go_sem, r0, r1, r2, r3, r4]) rfl ⟨rfl, ((((hB3.out.setCell (Nat.le_succ _) _).setCell (Nat.le_succ _) _).setCell (Nat.le_succ _) _).setCell (Nat.le_succ _) _).setCell (Nat.le_succ _) _⟩
end Go.Proofs.YtalpehfjjidfhaaDoor.MS
