/- What is proved: by hand, the setters and increments of a version. -/
import Derived.Test.YtalpehfjjidfhaaDoorHandText
namespace Go.Proofs.YtalpehfjjidfhaaDoor.MS
open Go Go.RowKit Sv Hand
open Go.Proofs.YtalpehfjjidfhaaDoorW.PrintWords Go.Proofs.YtalpehfjjidfhaaDoorW.PrintLast Go.Proofs.YtalpehfjjidfhaaDoorW.PrintMore
open Go.Proofs.YtalpehfjjidfhaaDoor.MA (tl okPre identL)
set_option linter.unusedVariables false
set_option linter.unusedSimpArgs false
/-- Three blocks of the call's own: the receiver, the result, the next version. -/
structure Tri (w w' : World) (a b c : Array Value) : Prop where mk ::
  (A : w'.heap[w.heap.size]? = some (.cells a 97 (0, 0)))
  (R : w'.heap[w.heap.size + 1]? = some (.cells b 97 (0, 0)))
  (C : w'.heap[w.heap.size + 1 + 1]? = some (.cells c 97 (0, 0)))
  (tab : Tab w')
  (B : Below w.heap.size w w')
theorem Tri.below {w w1 w2 : World} {a b c : Array Value} (h : Tri w w1 a b c) (hb : Below w1.heap.size w1 w2) : Tri w w2 a b c :=
  ⟨blk_below h.A hb, blk_below h.R hb, blk_below h.C hb, h.tab.below hb, h.B.trans (hb.mono h.B.size)⟩
theorem tab_setCell {w : World} (h : Tab w) (p : Addr) (u : Value) (hp : p.block ≠ 11) : Tab (w.setCell p u) := by
  obtain ⟨h1, h2⟩ := h
  refine ⟨?_, by simpa using h2⟩
  unfold Lib.TabIs at h1 ⊢
  rw [← h1]
  unfold World.var?
  rw [gT]
  simp only [Option.bind_some]
  rw [Below.heap_setCell w p u 11 (fun e => hp e.symm)]
theorem Tri.setC {w w1 : World} {a b c : Array Value} (h : Tri w w1 a b c) (hT : 11 < w.heap.size) (j : Nat) (u : Value) : Tri w (w1.setCell ⟨w.heap.size + 1 + 1, j, none⟩ u) a b (c.setIfInBounds j u) :=
  ⟨by rw [Below.heap_setCell w1 _ _ _ (by simp; omega)]; exact h.A, by rw [Below.heap_setCell w1 _ _ _ (by simp)]; exact h.R, blk_set h.C j u, tab_setCell h.tab _ _ (by simp; omega), h.B.setCell (by simp; omega) _⟩
def zero97 : Array Value := #[.int .u64 0, .int .u64 0, .int .u64 0, .string ⟨#[]⟩, .string ⟨#[]⟩, .string ⟨#[]⟩]
theorem heap_at {w : World} (o : Obj) : (w.alloc o).heap[w.heap.size]? = some o := by
  show (w.heap.push o)[w.heap.size]? = some o
  rw [Array.getElem?_push, if_pos rfl]
theorem heap_alloc {w : World} {n : Nat} {o x : Obj} (h : w.heap[n]? = some x) : (w.alloc o).heap[n]? = some x := by
  have hn : n < w.heap.size := by
    rcases Nat.lt_or_ge n w.heap.size with h' | h'
    · exact h'
    · rw [Array.getElem?_eq_none h'] at h; cases h
  show (w.heap.push o)[n]? = some x
  rw [Array.getElem?_push, if_neg (by omega)]
  exact h
theorem tri_start (w : World) (hT : Tab w) (a c : Array Value) : Tri w (((w.alloc (.cells a 97)).alloc (.cells zero97 97)).alloc (.cells c 97)) a zero97 c := by
  have hb : Below w.heap.size w (((w.alloc (.cells a 97)).alloc (.cells zero97 97)).alloc (.cells c 97)) := (((Below.refl _ w).alloc (Nat.le_refl _) _).alloc (by simp) _).alloc (by simp; omega) _
  refine ⟨heap_alloc (heap_alloc (heap_at _)), heap_alloc ?_, ?_, hT.below hb, hb⟩
  · have := @heap_at (w.alloc (.cells a 97)) (.cells zero97 97)
    rw [show (w.alloc (.cells a 97)).heap.size = w.heap.size + 1 by simp] at this
    exact this
  · have := @heap_at ((w.alloc (.cells a 97)).alloc (.cells zero97 97)) (.cells c 97)
    rw [show ((w.alloc (.cells a 97)).alloc (.cells zero97 97)).heap.size = w.heap.size + 1 + 1 by simp] at this
    exact this
set_option maxHeartbeats 1000000 in
theorem prefix_any (M m t : Int) (u v : ByteArray) (w : World) : Calls Tryd.prog 149 #[.agg #[.int .u64 M, .int .u64 m, .int .u64 t, .string u, .string v, .string ⟨#[]⟩]] w fun e w' => e = .returned (.string ⟨#[]⟩) ∧ Below w.heap.size w w' := by
  go_enter Tryd.func149, Tryd.ntmps149
  go_wp2
  go_ret
  exact ⟨rfl, (Below.refl _ w).alloc (Nat.le_refl _) _⟩
theorem dec_le (n : Nat) (h : n < 18446744073709551616) : (dec n).size ≤ 20 := dec_size n h
theorem verT_size (M m t : Nat) (u v : ByteArray) (hM : M < 18446744073709551616) (hm : m < 18446744073709551616) (ht : t < 18446744073709551616) (hu : u.size ≤ 65536) (hv : v.size ≤ 65536) : (verT M m t u v).size ≤ 281474976710656 := by
  have s0 := dec_size M hM
  have s1 := dec_size m hm
  have s2 := dec_size t ht
  have hn : (numT M m t).size ≤ 100 := by unfold numT; simp only [ByteArray.size_append, z46]; omega
  unfold verT preT
  have z45 : (⟨#[45]⟩ : ByteArray).size = 1 := rfl
  have z43 : (⟨#[43]⟩ : ByteArray).size = 1 := rfl
  split <;> split <;> (try simp only [ByteArray.size_append, z45, z43]) <;> omega
theorem e00 (x : ByteArray) : (⟨#[]⟩ : ByteArray) ++ ⟨#[]⟩ ++ x = x := bytes_ext (by simp)
theorem pre_cL (E : Nat → Addr) (l : List UInt8) (hl : l.length ≤ 65536) (k : Nat) (hk : firstK preK (bs (splitD l)) = k) (w : World) (hE : Ge E [3, 4] w) :
    Calls Tryd.prog 126 #[.string (B l)] w fun e w' => e = .returned (ev E k) ∧ Below w.heap.size w w' := by
  rw [← hk]
  have := zzSplit_f (B l) ((B l).size + 2) (by omega) (by rw [B_size]; omega)
  rw [tl_B] at this
  exact validatePrerelease.calls E (B l) _ _ w hE this (by have := split_len' l 70000 (by omega); omega)
theorem meta_cL (E : Nat → Addr) (l : List UInt8) (hl : l.length ≤ 65536) (k : Nat) (hk : firstK metaK (bs (splitD l)) = k) (w : World) (hE : Ge E [5] w) :
    Calls Tryd.prog 139 #[.string (B l)] w fun e w' => e = .returned (ev E k) ∧ Below w.heap.size w w' := by
  rw [← hk]
  have := zzSplit_f (B l) ((B l).size + 2) (by omega) (by rw [B_size]; omega)
  rw [tl_B] at this
  exact validateMetadata.calls E (B l) _ _ w hE this (by have := split_len' l 70000 (by omega); omega)
set_option maxHeartbeats 8000000 in
set_option maxRecDepth 100000 in
theorem setpre_any (M m t : Nat) (u v : ByteArray) (p : ByteArray) (hM : M < 18446744073709551616) (hm : m < 18446744073709551616) (ht : t < 18446744073709551616) (hu : u.size ≤ 65536) (hv : v.size ≤ 65536) (hp : p.size ≤ 65536) (hpz : 0 < p.size) (E : Nat → Addr) (hpk : firstK preK (bs (splitD (tl p))) = 0)  (w : World) (hT : Tab w) (hE : Ge E [3, 4] w) :
    Calls Tryd.prog 102 #[.agg #[.int .u64 (M : Int), .int .u64 (m : Int), .int .u64 (t : Int), .string u, .string v, .string ⟨#[]⟩], .string p] w fun e w' => e = .returned (.tuple #[.agg #[.int .u64 (M : Int), .int .u64 (m : Int), .int .u64 (t : Int), .string p, .string v, .string (verT M m t p v)], .nilIface]) ∧ Below w.heap.size w w' := by
  have X0 := fun w1 h => String_any M m t p v ⟨#[]⟩ hM hm ht (by omega) (by omega) w1 h
  have hx := verT_size M m t p v hM hm ht hp hv
  generalize verT M m t p v = x at X0 hx ⊢
  have X := Aside0.mk X0
  have hT2 := Aside0.mk hT.2
  have hI0 := Aside0.mk (tri_start w hT #[.int .u64 (M : Int), .int .u64 (m : Int), .int .u64 (t : Int), .string u, .string v, .string ⟨#[]⟩] #[.int .u64 (M : Int), .int .u64 (m : Int), .int .u64 (t : Int), .string u, .string v, .string ⟨#[]⟩])
  clear X0
  have hp0 : decide (0 < p.size) = true := decide_eq_true hpz
  have V := Aside0.mk (fun w1 h => pre_cL E (tl p) (by rw [← size_data]; omega) 0 hpk w1 h)
  have hE2 := Aside0.mk hE
  rw [B_tl] at V
  clear hT hE hpk
  go_enter Tryd.func102, Tryd.ntmps102
  go_wp2_with fail
  refine (V.out _ (Ge.sub (hE2.out.below hI0.out.B) (by simp))).mono ?_
  rintro e w4 ⟨rfl, hb⟩
  rw [show ev E 0 = .nilIface from rfl]
  have hI1 := Aside0.mk (hI0.out.below hb)
  clear hI0 hb V hE2
  have hc3 := (blk_cell hI1.out.C 3).trans rfl
  have hf3 := blk_frozen hI1.out.C 3
  go_wp2_with fail
  have hI := Aside0.mk ((hI1.out.setC hT2.out 3 (.string p)).below (below_drew (Below.refl _ _)))
  clear hI1 hc3 hf3

  refine start_ (n := 8) (S := fun w' => w'.cell? ⟨w.heap.size, 0, none⟩ = some (.int .u64 (M : Int)) ∧ w'.cell? ⟨w.heap.size, 1, none⟩ = some (.int .u64 (m : Int)) ∧ w'.cell? ⟨w.heap.size, 2, none⟩ = some (.int .u64 (t : Int)) ∧ w'.cell? ⟨w.heap.size, 3, none⟩ = some (.string u) ∧ w'.cell? ⟨w.heap.size, 4, none⟩ = some (.string v) ∧ w'.cell? ⟨w.heap.size, 5, none⟩ = some (.string ⟨#[]⟩) ∧ w'.cell? ⟨w.heap.size + 1 + 1, 0, none⟩ = some (.int .u64 (M : Int)) ∧ w'.cell? ⟨w.heap.size + 1 + 1, 1, none⟩ = some (.int .u64 (m : Int)) ∧ w'.cell? ⟨w.heap.size + 1 + 1, 2, none⟩ = some (.int .u64 (t : Int)) ∧ w'.cell? ⟨w.heap.size + 1 + 1, 3, none⟩ = some (.string p) ∧ w'.cell? ⟨w.heap.size + 1 + 1, 4, none⟩ = some (.string v) ∧ w'.cell? ⟨w.heap.size + 1 + 1, 5, none⟩ = some (.string ⟨#[]⟩)) (ds := [7]) #[false, false, false, false, false, false, false, false] (by kernel_rfl) rfl rfl ⟨(blk_cell hI.out.A 0).trans rfl, (blk_cell hI.out.A 1).trans rfl, (blk_cell hI.out.A 2).trans rfl, (blk_cell hI.out.A 3).trans rfl, (blk_cell hI.out.A 4).trans rfl, (blk_cell hI.out.A 5).trans rfl, (blk_cell hI.out.C 0).trans rfl, (blk_cell hI.out.C 1).trans rfl, (blk_cell hI.out.C 2).trans rfl, (blk_cell hI.out.C 3).trans rfl, (blk_cell hI.out.C 4).trans rfl, (blk_cell hI.out.C 5).trans rfl⟩ (fun hHeld => ?_)
  refine take_ (i := 0) (N := some 20) (v := ?_) (a' := ?_) #[true, false, false, false, false, false, false, false] rfl rfl (by kernel_rfl) (fun _ _ _ h => h) (Or.inl ⟨by rfl, ?_⟩) hHeld ?_ ?_
  rotate_left
  · rintro w' ⟨s0, s1, s2, s3, s4, s5, r0, r1, r2, r3, r4, r5⟩
    go_simp
    with_reducible rfl
  rotate_left
  · simp only [Act.put, List.setIfInBounds_toArray, List.set_cons_zero, List.set_cons_succ, i64_w, i32_w]
    rfl
  refine take_ (i := 3) (N := some 23) (v := ?_) (a' := ?_) #[true, false, false, true, false, false, false, false] rfl rfl (by kernel_rfl) (fun _ _ _ h => h) (Or.inl ⟨by rfl, ?_⟩) hHeld ?_ ?_
  rotate_left
  · rintro w' ⟨s0, s1, s2, s3, s4, s5, r0, r1, r2, r3, r4, r5⟩
    go_simp
    with_reducible rfl
  rotate_left
  · simp only [Act.put, List.setIfInBounds_toArray, List.set_cons_zero, List.set_cons_succ, i64_w, i32_w]
    rfl
  refine one_ (i := 1) (N := some 21) #[true, true, false, true, false, false, false, false] rfl rfl (by kernel_rfl) (by decide) (fun K hK => ?_)
  refine goes_ Tryd.func149 (by kernel_rfl) rfl #[.agg #[.int .u64 (M : Int), .int .u64 (m : Int), .int .u64 (t : Int), .string u, .string v, .string ⟨#[]⟩]] (by rfl) rfl rfl (by (try simp only [List.map_toArray, List.map_cons, List.map_nil]); first | done | rfl) ?_
  refine (prefix_any _ _ _ u v _).mono ?_
  rintro e w1 ⟨rfl, hb⟩
  refine ⟨_, rfl, ?_⟩
  have hI2 := Aside0.mk (hI.out.below hb)
  clear hI hb
  have hI := hI2
  clear hI2
  refine hK.out _ _ ⟨(blk_cell hI.out.A 0).trans rfl, (blk_cell hI.out.A 1).trans rfl, (blk_cell hI.out.A 2).trans rfl, (blk_cell hI.out.A 3).trans rfl, (blk_cell hI.out.A 4).trans rfl, (blk_cell hI.out.A 5).trans rfl, (blk_cell hI.out.C 0).trans rfl, (blk_cell hI.out.C 1).trans rfl, (blk_cell hI.out.C 2).trans rfl, (blk_cell hI.out.C 3).trans rfl, (blk_cell hI.out.C 4).trans rfl, (blk_cell hI.out.C 5).trans rfl⟩ (fun hHeld => ?_)
  clear hK K
  refine norm_ (a' := ?_) ?_ ?_
  rotate_left
  · show Act.put _ (some 21) _ = _
    simp only [Act.put, List.setIfInBounds_toArray, List.set_cons_zero, List.set_cons_succ, i64_w, i32_w]
    rfl
  refine pure_ (i := 2) (N := some 22) (v := ?_) (a' := ?_) #[true, true, true, true, false, false, false, false] rfl rfl (by kernel_rfl) (fun _ _ _ h => h) (Or.inl ⟨by rfl, ?_⟩) ?_ ?_
  rotate_left
  · intro w'
    go_simp
    with_reducible rfl
  rotate_left
  · simp only [Act.put, List.setIfInBounds_toArray, List.set_cons_zero, List.set_cons_succ, i64_w, i32_w]
    rfl
  refine one_ (i := 4) (N := some 24) #[true, true, true, true, true, false, false, false] rfl rfl (by kernel_rfl) (by decide) (fun K hK => ?_)
  refine goes_ Tryd.func104 (by kernel_rfl) rfl #[.agg #[.int .u64 (M : Int), .int .u64 (m : Int), .int .u64 (t : Int), .string p, .string v, .string ⟨#[]⟩]] (by rfl) rfl rfl (by (try simp only [List.map_toArray, List.map_cons, List.map_nil]); first | done | rfl) ?_
  refine (X.out _ hI.out.tab).mono ?_
  rintro e w4 ⟨rfl, hb⟩
  refine ⟨_, rfl, ?_⟩
  have hI2 := Aside0.mk (hI.out.below hb)
  clear hI hb
  have hI := hI2
  clear hI2
  refine hK.out _ _ ⟨(blk_cell hI.out.A 0).trans rfl, (blk_cell hI.out.A 1).trans rfl, (blk_cell hI.out.A 2).trans rfl, (blk_cell hI.out.A 3).trans rfl, (blk_cell hI.out.A 4).trans rfl, (blk_cell hI.out.A 5).trans rfl, (blk_cell hI.out.C 0).trans rfl, (blk_cell hI.out.C 1).trans rfl, (blk_cell hI.out.C 2).trans rfl, (blk_cell hI.out.C 3).trans rfl, (blk_cell hI.out.C 4).trans rfl, (blk_cell hI.out.C 5).trans rfl⟩ (fun hHeld => ?_)
  clear hK K
  refine norm_ (a' := ?_) ?_ ?_
  rotate_left
  · show Act.put _ (some 24) _ = _
    simp only [Act.put, List.setIfInBounds_toArray, List.set_cons_zero, List.set_cons_succ, i64_w, i32_w]
    rfl
  refine pure_ (i := 5) (N := some 25) (v := ?_) (a' := ?_) #[true, true, true, true, true, true, false, false] rfl rfl (by kernel_rfl) (fun _ _ _ h => h) (Or.inl ⟨by rfl, ?_⟩) ?_ ?_
  rotate_left
  · intro w'
    go_simp
    rw [if_neg (by omega)]
  rotate_left
  · simp only [Act.put, List.setIfInBounds_toArray, List.set_cons_zero, List.set_cons_succ, i64_w, i32_w]
    rfl
  refine pure_ (i := 6) (N := some 26) (v := ?_) (a' := ?_) #[true, true, true, true, true, true, true, false] rfl rfl (by kernel_rfl) (fun _ _ _ h => h) (Or.inl ⟨by rfl, ?_⟩) ?_ ?_
  rotate_left
  · intro w'
    go_simp
    with_reducible rfl
  rotate_left
  · simp only [Act.put, List.setIfInBounds_toArray, List.set_cons_zero, List.set_cons_succ, i64_w, i32_w]
    rfl
  have hc5 := (blk_cell hI.out.C 5).trans rfl
  have hf5 := blk_frozen hI.out.C 5
  refine last_ (i := 7) (N := none) #[true, true, true, true, true, true, true, true] rfl rfl (by kernel_rfl) (by decide) (fun K hK => ?_)
  refine skip_ (w1 := ?_) (by rfl) rfl ?_ ?_
  rotate_left
  · go_simp
    rfl
  have hI2 := Aside0.mk (hI.out.setC hT2.out 5 (.string (⟨#[]⟩ ++ ⟨#[]⟩ ++ x)))
  refine hK.out _ _ ?_
  clear hK K hc5 hf5 hI hHeld
  have hI := hI2
  clear hI2
  refine done_ (by kernel_rfl) ?_
  rw [show ((⟨#[]⟩ : ByteArray) ++ ⟨#[]⟩ ++ x) = x from e00 x] at hI ⊢
  generalize World.setCell _ _ (.string x) = w7 at hI ⊢
  have hJ : Aside0 (Tri w w7 #[.int .u64 (M : Int), .int .u64 (m : Int), .int .u64 (t : Int), .string u, .string v, .string ⟨#[]⟩] zero97 #[.int .u64 (M : Int), .int .u64 (m : Int), .int .u64 (t : Int), .string p, .string v, .string x]) := hI
  clear hI
  have hI := hJ
  clear hJ
  have z0 : w7.cell? ⟨w.heap.size + 1 + 1, 0, none⟩ = some (.int .u64 (M : Int)) := (blk_cell hI.out.C 0).trans rfl
  have z1 : w7.cell? ⟨w.heap.size + 1 + 1, 1, none⟩ = some (.int .u64 (m : Int)) := (blk_cell hI.out.C 1).trans rfl
  have z2 : w7.cell? ⟨w.heap.size + 1 + 1, 2, none⟩ = some (.int .u64 (t : Int)) := (blk_cell hI.out.C 2).trans rfl
  have z3 : w7.cell? ⟨w.heap.size + 1 + 1, 3, none⟩ = some (.string p) := (blk_cell hI.out.C 3).trans rfl
  have z4 : w7.cell? ⟨w.heap.size + 1 + 1, 4, none⟩ = some (.string v) := (blk_cell hI.out.C 4).trans rfl
  have z5 : w7.cell? ⟨w.heap.size + 1 + 1, 5, none⟩ = some (.string x) := (blk_cell hI.out.C 5).trans rfl
  have y0 := blk_frozen hI.out.R 0
  have y1 := blk_frozen hI.out.R 1
  have y2 := blk_frozen hI.out.R 2
  have y3 := blk_frozen hI.out.R 3
  have y4 := blk_frozen hI.out.R 4
  have y5 := blk_frozen hI.out.R 5
  have r0 : w7.cell? ⟨w.heap.size + 1, 0, none⟩ = some (.int .u64 0) := (blk_cell hI.out.R 0).trans rfl
  have r1 : w7.cell? ⟨w.heap.size + 1, 1, none⟩ = some (.int .u64 0) := (blk_cell hI.out.R 1).trans rfl
  have r2 : w7.cell? ⟨w.heap.size + 1, 2, none⟩ = some (.int .u64 0) := (blk_cell hI.out.R 2).trans rfl
  have r3 : w7.cell? ⟨w.heap.size + 1, 3, none⟩ = some (.string ⟨#[]⟩) := (blk_cell hI.out.R 3).trans rfl
  have r4 : w7.cell? ⟨w.heap.size + 1, 4, none⟩ = some (.string ⟨#[]⟩) := (blk_cell hI.out.R 4).trans rfl
  have r5 : w7.cell? ⟨w.heap.size + 1, 5, none⟩ = some (.string ⟨#[]⟩) := (blk_cell hI.out.R 5).trans rfl
  go_wp2_with fail
  exact bodyPost_ret (v := .tuple #[.agg #[.int .u64 (M : Int), .int .u64 (m : Int), .int .u64 (t : Int), .string p, .string v, .string x], .nilIface]) (by simp [results, Tryd.results102, go_sem, r0, r1, r2, r3, r4, r5]) rfl ⟨rfl, (((((hI.out.B.setCell (Nat.le_succ _) _).setCell (Nat.le_succ _) _).setCell (Nat.le_succ _) _).setCell (Nat.le_succ _) _).setCell (Nat.le_succ _) _).setCell (Nat.le_succ _) _⟩
set_option maxHeartbeats 8000000 in
set_option maxRecDepth 100000 in
theorem setmeta_any (M m t : Nat) (u v : ByteArray) (p : ByteArray) (hM : M < 18446744073709551616) (hm : m < 18446744073709551616) (ht : t < 18446744073709551616) (hu : u.size ≤ 65536) (hv : v.size ≤ 65536) (hp : p.size ≤ 65536) (hpz : 0 < p.size) (E : Nat → Addr) (hpk : firstK metaK (bs (splitD (tl p))) = 0)  (w : World) (hT : Tab w) (hE : Ge E [5] w) :
    Calls Tryd.prog 103 #[.agg #[.int .u64 (M : Int), .int .u64 (m : Int), .int .u64 (t : Int), .string u, .string v, .string ⟨#[]⟩], .string p] w fun e w' => e = .returned (.tuple #[.agg #[.int .u64 (M : Int), .int .u64 (m : Int), .int .u64 (t : Int), .string u, .string p, .string (verT M m t u p)], .nilIface]) ∧ Below w.heap.size w w' := by
  have X0 := fun w1 h => String_any M m t u p ⟨#[]⟩ hM hm ht (by omega) (by omega) w1 h
  have hx := verT_size M m t u p hM hm ht hu hp
  generalize verT M m t u p = x at X0 hx ⊢
  have X := Aside0.mk X0
  have hT2 := Aside0.mk hT.2
  have hI0 := Aside0.mk (tri_start w hT #[.int .u64 (M : Int), .int .u64 (m : Int), .int .u64 (t : Int), .string u, .string v, .string ⟨#[]⟩] #[.int .u64 (M : Int), .int .u64 (m : Int), .int .u64 (t : Int), .string u, .string v, .string ⟨#[]⟩])
  clear X0
  have hp0 : decide (0 < p.size) = true := decide_eq_true hpz
  have V := Aside0.mk (fun w1 h => meta_cL E (tl p) (by rw [← size_data]; omega) 0 hpk w1 h)
  have hE2 := Aside0.mk hE
  rw [B_tl] at V
  clear hT hE hpk
  go_enter Tryd.func103, Tryd.ntmps103
  go_wp2_with fail
  refine (V.out _ (Ge.sub (hE2.out.below hI0.out.B) (by simp))).mono ?_
  rintro e w4 ⟨rfl, hb⟩
  rw [show ev E 0 = .nilIface from rfl]
  have hI1 := Aside0.mk (hI0.out.below hb)
  clear hI0 hb V hE2
  have hc4 := (blk_cell hI1.out.C 4).trans rfl
  have hf4 := blk_frozen hI1.out.C 4
  go_wp2_with fail
  have hI := Aside0.mk ((hI1.out.setC hT2.out 4 (.string p)).below (below_drew (Below.refl _ _)))
  clear hI1 hc4 hf4

  refine start_ (n := 8) (S := fun w' => w'.cell? ⟨w.heap.size, 0, none⟩ = some (.int .u64 (M : Int)) ∧ w'.cell? ⟨w.heap.size, 1, none⟩ = some (.int .u64 (m : Int)) ∧ w'.cell? ⟨w.heap.size, 2, none⟩ = some (.int .u64 (t : Int)) ∧ w'.cell? ⟨w.heap.size, 3, none⟩ = some (.string u) ∧ w'.cell? ⟨w.heap.size, 4, none⟩ = some (.string v) ∧ w'.cell? ⟨w.heap.size, 5, none⟩ = some (.string ⟨#[]⟩) ∧ w'.cell? ⟨w.heap.size + 1 + 1, 0, none⟩ = some (.int .u64 (M : Int)) ∧ w'.cell? ⟨w.heap.size + 1 + 1, 1, none⟩ = some (.int .u64 (m : Int)) ∧ w'.cell? ⟨w.heap.size + 1 + 1, 2, none⟩ = some (.int .u64 (t : Int)) ∧ w'.cell? ⟨w.heap.size + 1 + 1, 3, none⟩ = some (.string u) ∧ w'.cell? ⟨w.heap.size + 1 + 1, 4, none⟩ = some (.string p) ∧ w'.cell? ⟨w.heap.size + 1 + 1, 5, none⟩ = some (.string ⟨#[]⟩)) (ds := [7]) #[false, false, false, false, false, false, false, false] (by kernel_rfl) rfl rfl ⟨(blk_cell hI.out.A 0).trans rfl, (blk_cell hI.out.A 1).trans rfl, (blk_cell hI.out.A 2).trans rfl, (blk_cell hI.out.A 3).trans rfl, (blk_cell hI.out.A 4).trans rfl, (blk_cell hI.out.A 5).trans rfl, (blk_cell hI.out.C 0).trans rfl, (blk_cell hI.out.C 1).trans rfl, (blk_cell hI.out.C 2).trans rfl, (blk_cell hI.out.C 3).trans rfl, (blk_cell hI.out.C 4).trans rfl, (blk_cell hI.out.C 5).trans rfl⟩ (fun hHeld => ?_)
  refine take_ (i := 0) (N := some 20) (v := ?_) (a' := ?_) #[true, false, false, false, false, false, false, false] rfl rfl (by kernel_rfl) (fun _ _ _ h => h) (Or.inl ⟨by rfl, ?_⟩) hHeld ?_ ?_
  rotate_left
  · rintro w' ⟨s0, s1, s2, s3, s4, s5, r0, r1, r2, r3, r4, r5⟩
    go_simp
    with_reducible rfl
  rotate_left
  · simp only [Act.put, List.setIfInBounds_toArray, List.set_cons_zero, List.set_cons_succ, i64_w, i32_w]
    rfl
  refine take_ (i := 3) (N := some 23) (v := ?_) (a' := ?_) #[true, false, false, true, false, false, false, false] rfl rfl (by kernel_rfl) (fun _ _ _ h => h) (Or.inl ⟨by rfl, ?_⟩) hHeld ?_ ?_
  rotate_left
  · rintro w' ⟨s0, s1, s2, s3, s4, s5, r0, r1, r2, r3, r4, r5⟩
    go_simp
    with_reducible rfl
  rotate_left
  · simp only [Act.put, List.setIfInBounds_toArray, List.set_cons_zero, List.set_cons_succ, i64_w, i32_w]
    rfl
  refine one_ (i := 1) (N := some 21) #[true, true, false, true, false, false, false, false] rfl rfl (by kernel_rfl) (by decide) (fun K hK => ?_)
  refine goes_ Tryd.func149 (by kernel_rfl) rfl #[.agg #[.int .u64 (M : Int), .int .u64 (m : Int), .int .u64 (t : Int), .string u, .string v, .string ⟨#[]⟩]] (by rfl) rfl rfl (by (try simp only [List.map_toArray, List.map_cons, List.map_nil]); first | done | rfl) ?_
  refine (prefix_any _ _ _ u v _).mono ?_
  rintro e w1 ⟨rfl, hb⟩
  refine ⟨_, rfl, ?_⟩
  have hI2 := Aside0.mk (hI.out.below hb)
  clear hI hb
  have hI := hI2
  clear hI2
  refine hK.out _ _ ⟨(blk_cell hI.out.A 0).trans rfl, (blk_cell hI.out.A 1).trans rfl, (blk_cell hI.out.A 2).trans rfl, (blk_cell hI.out.A 3).trans rfl, (blk_cell hI.out.A 4).trans rfl, (blk_cell hI.out.A 5).trans rfl, (blk_cell hI.out.C 0).trans rfl, (blk_cell hI.out.C 1).trans rfl, (blk_cell hI.out.C 2).trans rfl, (blk_cell hI.out.C 3).trans rfl, (blk_cell hI.out.C 4).trans rfl, (blk_cell hI.out.C 5).trans rfl⟩ (fun hHeld => ?_)
  clear hK K
  refine norm_ (a' := ?_) ?_ ?_
  rotate_left
  · show Act.put _ (some 21) _ = _
    simp only [Act.put, List.setIfInBounds_toArray, List.set_cons_zero, List.set_cons_succ, i64_w, i32_w]
    rfl
  refine pure_ (i := 2) (N := some 22) (v := ?_) (a' := ?_) #[true, true, true, true, false, false, false, false] rfl rfl (by kernel_rfl) (fun _ _ _ h => h) (Or.inl ⟨by rfl, ?_⟩) ?_ ?_
  rotate_left
  · intro w'
    go_simp
    with_reducible rfl
  rotate_left
  · simp only [Act.put, List.setIfInBounds_toArray, List.set_cons_zero, List.set_cons_succ, i64_w, i32_w]
    rfl
  refine one_ (i := 4) (N := some 24) #[true, true, true, true, true, false, false, false] rfl rfl (by kernel_rfl) (by decide) (fun K hK => ?_)
  refine goes_ Tryd.func104 (by kernel_rfl) rfl #[.agg #[.int .u64 (M : Int), .int .u64 (m : Int), .int .u64 (t : Int), .string u, .string p, .string ⟨#[]⟩]] (by rfl) rfl rfl (by (try simp only [List.map_toArray, List.map_cons, List.map_nil]); first | done | rfl) ?_
  refine (X.out _ hI.out.tab).mono ?_
  rintro e w4 ⟨rfl, hb⟩
  refine ⟨_, rfl, ?_⟩
  have hI2 := Aside0.mk (hI.out.below hb)
  clear hI hb
  have hI := hI2
  clear hI2
  refine hK.out _ _ ⟨(blk_cell hI.out.A 0).trans rfl, (blk_cell hI.out.A 1).trans rfl, (blk_cell hI.out.A 2).trans rfl, (blk_cell hI.out.A 3).trans rfl, (blk_cell hI.out.A 4).trans rfl, (blk_cell hI.out.A 5).trans rfl, (blk_cell hI.out.C 0).trans rfl, (blk_cell hI.out.C 1).trans rfl, (blk_cell hI.out.C 2).trans rfl, (blk_cell hI.out.C 3).trans rfl, (blk_cell hI.out.C 4).trans rfl, (blk_cell hI.out.C 5).trans rfl⟩ (fun hHeld => ?_)
  clear hK K
  refine norm_ (a' := ?_) ?_ ?_
  rotate_left
  · show Act.put _ (some 24) _ = _
    simp only [Act.put, List.setIfInBounds_toArray, List.set_cons_zero, List.set_cons_succ, i64_w, i32_w]
    rfl
  refine pure_ (i := 5) (N := some 25) (v := ?_) (a' := ?_) #[true, true, true, true, true, true, false, false] rfl rfl (by kernel_rfl) (fun _ _ _ h => h) (Or.inl ⟨by rfl, ?_⟩) ?_ ?_
  rotate_left
  · intro w'
    go_simp
    rw [if_neg (by omega)]
  rotate_left
  · simp only [Act.put, List.setIfInBounds_toArray, List.set_cons_zero, List.set_cons_succ, i64_w, i32_w]
    rfl
  refine pure_ (i := 6) (N := some 26) (v := ?_) (a' := ?_) #[true, true, true, true, true, true, true, false] rfl rfl (by kernel_rfl) (fun _ _ _ h => h) (Or.inl ⟨by rfl, ?_⟩) ?_ ?_
  rotate_left
  · intro w'
    go_simp
    with_reducible rfl
  rotate_left
  · simp only [Act.put, List.setIfInBounds_toArray, List.set_cons_zero, List.set_cons_succ, i64_w, i32_w]
    rfl
  have hc5 := (blk_cell hI.out.C 5).trans rfl
  have hf5 := blk_frozen hI.out.C 5
  refine last_ (i := 7) (N := none) #[true, true, true, true, true, true, true, true] rfl rfl (by kernel_rfl) (by decide) (fun K hK => ?_)
  refine skip_ (w1 := ?_) (by rfl) rfl ?_ ?_
  rotate_left
  · go_simp
    rfl
  have hI2 := Aside0.mk (hI.out.setC hT2.out 5 (.string (⟨#[]⟩ ++ ⟨#[]⟩ ++ x)))
  refine hK.out _ _ ?_
  clear hK K hc5 hf5 hI hHeld
  have hI := hI2
  clear hI2
  refine done_ (by kernel_rfl) ?_
  rw [show ((⟨#[]⟩ : ByteArray) ++ ⟨#[]⟩ ++ x) = x from e00 x] at hI ⊢
  generalize World.setCell _ _ (.string x) = w7 at hI ⊢
  have hJ : Aside0 (Tri w w7 #[.int .u64 (M : Int), .int .u64 (m : Int), .int .u64 (t : Int), .string u, .string v, .string ⟨#[]⟩] zero97 #[.int .u64 (M : Int), .int .u64 (m : Int), .int .u64 (t : Int), .string u, .string p, .string x]) := hI
  clear hI
  have hI := hJ
  clear hJ
  have z0 : w7.cell? ⟨w.heap.size + 1 + 1, 0, none⟩ = some (.int .u64 (M : Int)) := (blk_cell hI.out.C 0).trans rfl
  have z1 : w7.cell? ⟨w.heap.size + 1 + 1, 1, none⟩ = some (.int .u64 (m : Int)) := (blk_cell hI.out.C 1).trans rfl
  have z2 : w7.cell? ⟨w.heap.size + 1 + 1, 2, none⟩ = some (.int .u64 (t : Int)) := (blk_cell hI.out.C 2).trans rfl
  have z3 : w7.cell? ⟨w.heap.size + 1 + 1, 3, none⟩ = some (.string u) := (blk_cell hI.out.C 3).trans rfl
  have z4 : w7.cell? ⟨w.heap.size + 1 + 1, 4, none⟩ = some (.string p) := (blk_cell hI.out.C 4).trans rfl
  have z5 : w7.cell? ⟨w.heap.size + 1 + 1, 5, none⟩ = some (.string x) := (blk_cell hI.out.C 5).trans rfl
  have y0 := blk_frozen hI.out.R 0
  have y1 := blk_frozen hI.out.R 1
  have y2 := blk_frozen hI.out.R 2
  have y3 := blk_frozen hI.out.R 3
  have y4 := blk_frozen hI.out.R 4
  have y5 := blk_frozen hI.out.R 5
  have r0 : w7.cell? ⟨w.heap.size + 1, 0, none⟩ = some (.int .u64 0) := (blk_cell hI.out.R 0).trans rfl
  have r1 : w7.cell? ⟨w.heap.size + 1, 1, none⟩ = some (.int .u64 0) := (blk_cell hI.out.R 1).trans rfl
  have r2 : w7.cell? ⟨w.heap.size + 1, 2, none⟩ = some (.int .u64 0) := (blk_cell hI.out.R 2).trans rfl
  have r3 : w7.cell? ⟨w.heap.size + 1, 3, none⟩ = some (.string ⟨#[]⟩) := (blk_cell hI.out.R 3).trans rfl
  have r4 : w7.cell? ⟨w.heap.size + 1, 4, none⟩ = some (.string ⟨#[]⟩) := (blk_cell hI.out.R 4).trans rfl
  have r5 : w7.cell? ⟨w.heap.size + 1, 5, none⟩ = some (.string ⟨#[]⟩) := (blk_cell hI.out.R 5).trans rfl
  go_wp2_with fail
  exact bodyPost_ret (v := .tuple #[.agg #[.int .u64 (M : Int), .int .u64 (m : Int), .int .u64 (t : Int), .string u, .string p, .string x], .nilIface]) (by simp [results, Tryd.results103, go_sem, r0, r1, r2, r3, r4, r5]) rfl ⟨rfl, (((((hI.out.B.setCell (Nat.le_succ _) _).setCell (Nat.le_succ _) _).setCell (Nat.le_succ _) _).setCell (Nat.le_succ _) _).setCell (Nat.le_succ _) _).setCell (Nat.le_succ _) _⟩
set_option maxHeartbeats 8000000 in
set_option maxRecDepth 100000 in
theorem incpatch_pre (M m t : Nat) (u v : ByteArray)  (hM : M < 18446744073709551616) (hm : m < 18446744073709551616) (ht : t < 18446744073709551616) (hu : u.size ≤ 65536) (hv : v.size ≤ 65536) (eu : u.toList.isEmpty = false)  (w : World) (hT : Tab w) :
    Calls Tryd.prog 107 #[.agg #[.int .u64 (M : Int), .int .u64 (m : Int), .int .u64 (t : Int), .string u, .string v, .string ⟨#[]⟩]] w fun e w' => e = .returned (.agg #[.int .u64 (M : Int), .int .u64 (m : Int), .int .u64 (t : Int), .string ⟨#[]⟩, .string ⟨#[]⟩, .string (verT M m t ⟨#[]⟩ ⟨#[]⟩)]) ∧ Below w.heap.size w w' := by
  have X0 := fun w1 h => String_any M m t ⟨#[]⟩ ⟨#[]⟩ ⟨#[]⟩ hM hm ht (by decide) (by decide) w1 h
  have hx := verT_size M m t ⟨#[]⟩ ⟨#[]⟩ hM hm ht (by decide) (by decide)
  generalize verT M m t ⟨#[]⟩ ⟨#[]⟩ = x at X0 hx ⊢
  have X := Aside0.mk X0
  have hT2 := Aside0.mk hT.2
  have hI0 := Aside0.mk (tri_start w hT #[.int .u64 (M : Int), .int .u64 (m : Int), .int .u64 (t : Int), .string u, .string v, .string ⟨#[]⟩] #[.int .u64 (M : Int), .int .u64 (m : Int), .int .u64 (t : Int), .string ⟨#[]⟩, .string ⟨#[]⟩, .string ⟨#[]⟩])
  clear X0
  have eu2 : (!u.toList.isEmpty) = true := by rw [eu]; rfl
  clear hT
  go_enter Tryd.func107, Tryd.ntmps107
  go_wp2_with fail
  have hI := Aside0.mk (hI0.out.below (below_drew (Below.refl _ _)))
  clear hI0

  refine start_ (n := 8) (S := fun w' => w'.cell? ⟨w.heap.size, 0, none⟩ = some (.int .u64 (M : Int)) ∧ w'.cell? ⟨w.heap.size, 1, none⟩ = some (.int .u64 (m : Int)) ∧ w'.cell? ⟨w.heap.size, 2, none⟩ = some (.int .u64 (t : Int)) ∧ w'.cell? ⟨w.heap.size, 3, none⟩ = some (.string u) ∧ w'.cell? ⟨w.heap.size, 4, none⟩ = some (.string v) ∧ w'.cell? ⟨w.heap.size, 5, none⟩ = some (.string ⟨#[]⟩) ∧ w'.cell? ⟨w.heap.size + 1 + 1, 0, none⟩ = some (.int .u64 (M : Int)) ∧ w'.cell? ⟨w.heap.size + 1 + 1, 1, none⟩ = some (.int .u64 (m : Int)) ∧ w'.cell? ⟨w.heap.size + 1 + 1, 2, none⟩ = some (.int .u64 (t : Int)) ∧ w'.cell? ⟨w.heap.size + 1 + 1, 3, none⟩ = some (.string ⟨#[]⟩) ∧ w'.cell? ⟨w.heap.size + 1 + 1, 4, none⟩ = some (.string ⟨#[]⟩) ∧ w'.cell? ⟨w.heap.size + 1 + 1, 5, none⟩ = some (.string ⟨#[]⟩)) (ds := [7]) #[false, false, false, false, false, false, false, false] (by kernel_rfl) rfl rfl ⟨(blk_cell hI.out.A 0).trans rfl, (blk_cell hI.out.A 1).trans rfl, (blk_cell hI.out.A 2).trans rfl, (blk_cell hI.out.A 3).trans rfl, (blk_cell hI.out.A 4).trans rfl, (blk_cell hI.out.A 5).trans rfl, (blk_cell hI.out.C 0).trans rfl, (blk_cell hI.out.C 1).trans rfl, (blk_cell hI.out.C 2).trans rfl, (blk_cell hI.out.C 3).trans rfl, (blk_cell hI.out.C 4).trans rfl, (blk_cell hI.out.C 5).trans rfl⟩ (fun hHeld => ?_)
  refine take_ (i := 0) (N := some 20) (v := ?_) (a' := ?_) #[true, false, false, false, false, false, false, false] rfl rfl (by kernel_rfl) (fun _ _ _ h => h) (Or.inl ⟨by rfl, ?_⟩) hHeld ?_ ?_
  rotate_left
  · rintro w' ⟨s0, s1, s2, s3, s4, s5, r0, r1, r2, r3, r4, r5⟩
    go_simp
    with_reducible rfl
  rotate_left
  · simp only [Act.put, List.setIfInBounds_toArray, List.set_cons_zero, List.set_cons_succ, i64_w, i32_w]
    rfl
  refine take_ (i := 3) (N := some 23) (v := ?_) (a' := ?_) #[true, false, false, true, false, false, false, false] rfl rfl (by kernel_rfl) (fun _ _ _ h => h) (Or.inl ⟨by rfl, ?_⟩) hHeld ?_ ?_
  rotate_left
  · rintro w' ⟨s0, s1, s2, s3, s4, s5, r0, r1, r2, r3, r4, r5⟩
    go_simp
    with_reducible rfl
  rotate_left
  · simp only [Act.put, List.setIfInBounds_toArray, List.set_cons_zero, List.set_cons_succ, i64_w, i32_w]
    rfl
  refine one_ (i := 1) (N := some 21) #[true, true, false, true, false, false, false, false] rfl rfl (by kernel_rfl) (by decide) (fun K hK => ?_)
  refine goes_ Tryd.func149 (by kernel_rfl) rfl #[.agg #[.int .u64 (M : Int), .int .u64 (m : Int), .int .u64 (t : Int), .string u, .string v, .string ⟨#[]⟩]] (by rfl) rfl rfl (by (try simp only [List.map_toArray, List.map_cons, List.map_nil]); first | done | rfl) ?_
  refine (prefix_any _ _ _ u v _).mono ?_
  rintro e w1 ⟨rfl, hb⟩
  refine ⟨_, rfl, ?_⟩
  have hI2 := Aside0.mk (hI.out.below hb)
  clear hI hb
  have hI := hI2
  clear hI2
  refine hK.out _ _ ⟨(blk_cell hI.out.A 0).trans rfl, (blk_cell hI.out.A 1).trans rfl, (blk_cell hI.out.A 2).trans rfl, (blk_cell hI.out.A 3).trans rfl, (blk_cell hI.out.A 4).trans rfl, (blk_cell hI.out.A 5).trans rfl, (blk_cell hI.out.C 0).trans rfl, (blk_cell hI.out.C 1).trans rfl, (blk_cell hI.out.C 2).trans rfl, (blk_cell hI.out.C 3).trans rfl, (blk_cell hI.out.C 4).trans rfl, (blk_cell hI.out.C 5).trans rfl⟩ (fun hHeld => ?_)
  clear hK K
  refine norm_ (a' := ?_) ?_ ?_
  rotate_left
  · show Act.put _ (some 21) _ = _
    simp only [Act.put, List.setIfInBounds_toArray, List.set_cons_zero, List.set_cons_succ, i64_w, i32_w]
    rfl
  refine pure_ (i := 2) (N := some 22) (v := ?_) (a' := ?_) #[true, true, true, true, false, false, false, false] rfl rfl (by kernel_rfl) (fun _ _ _ h => h) (Or.inl ⟨by rfl, ?_⟩) ?_ ?_
  rotate_left
  · intro w'
    go_simp
    with_reducible rfl
  rotate_left
  · simp only [Act.put, List.setIfInBounds_toArray, List.set_cons_zero, List.set_cons_succ, i64_w, i32_w]
    rfl
  refine one_ (i := 4) (N := some 24) #[true, true, true, true, true, false, false, false] rfl rfl (by kernel_rfl) (by decide) (fun K hK => ?_)
  refine goes_ Tryd.func104 (by kernel_rfl) rfl #[.agg #[.int .u64 (M : Int), .int .u64 (m : Int), .int .u64 (t : Int), .string ⟨#[]⟩, .string ⟨#[]⟩, .string ⟨#[]⟩]] (by rfl) rfl rfl (by (try simp only [List.map_toArray, List.map_cons, List.map_nil]); first | done | rfl) ?_
  refine (X.out _ hI.out.tab).mono ?_
  rintro e w4 ⟨rfl, hb⟩
  refine ⟨_, rfl, ?_⟩
  have hI2 := Aside0.mk (hI.out.below hb)
  clear hI hb
  have hI := hI2
  clear hI2
  refine hK.out _ _ ⟨(blk_cell hI.out.A 0).trans rfl, (blk_cell hI.out.A 1).trans rfl, (blk_cell hI.out.A 2).trans rfl, (blk_cell hI.out.A 3).trans rfl, (blk_cell hI.out.A 4).trans rfl, (blk_cell hI.out.A 5).trans rfl, (blk_cell hI.out.C 0).trans rfl, (blk_cell hI.out.C 1).trans rfl, (blk_cell hI.out.C 2).trans rfl, (blk_cell hI.out.C 3).trans rfl, (blk_cell hI.out.C 4).trans rfl, (blk_cell hI.out.C 5).trans rfl⟩ (fun hHeld => ?_)
  clear hK K
  refine norm_ (a' := ?_) ?_ ?_
  rotate_left
  · show Act.put _ (some 24) _ = _
    simp only [Act.put, List.setIfInBounds_toArray, List.set_cons_zero, List.set_cons_succ, i64_w, i32_w]
    rfl
  refine pure_ (i := 5) (N := some 25) (v := ?_) (a' := ?_) #[true, true, true, true, true, true, false, false] rfl rfl (by kernel_rfl) (fun _ _ _ h => h) (Or.inl ⟨by rfl, ?_⟩) ?_ ?_
  rotate_left
  · intro w'
    go_simp
    rw [if_neg (by omega)]
  rotate_left
  · simp only [Act.put, List.setIfInBounds_toArray, List.set_cons_zero, List.set_cons_succ, i64_w, i32_w]
    rfl
  refine pure_ (i := 6) (N := some 26) (v := ?_) (a' := ?_) #[true, true, true, true, true, true, true, false] rfl rfl (by kernel_rfl) (fun _ _ _ h => h) (Or.inl ⟨by rfl, ?_⟩) ?_ ?_
  rotate_left
  · intro w'
    go_simp
    with_reducible rfl
  rotate_left
  · simp only [Act.put, List.setIfInBounds_toArray, List.set_cons_zero, List.set_cons_succ, i64_w, i32_w]
    rfl
  have hc5 := (blk_cell hI.out.C 5).trans rfl
  have hf5 := blk_frozen hI.out.C 5
  refine last_ (i := 7) (N := none) #[true, true, true, true, true, true, true, true] rfl rfl (by kernel_rfl) (by decide) (fun K hK => ?_)
  refine skip_ (w1 := ?_) (by rfl) rfl ?_ ?_
  rotate_left
  · go_simp
    rfl
  have hI2 := Aside0.mk (hI.out.setC hT2.out 5 (.string (⟨#[]⟩ ++ ⟨#[]⟩ ++ x)))
  refine hK.out _ _ ?_
  clear hK K hc5 hf5 hI hHeld
  have hI := hI2
  clear hI2
  refine done_ (by kernel_rfl) ?_
  rw [show ((⟨#[]⟩ : ByteArray) ++ ⟨#[]⟩ ++ x) = x from e00 x] at hI ⊢
  generalize World.setCell _ _ (.string x) = w7 at hI ⊢
  have hJ : Aside0 (Tri w w7 #[.int .u64 (M : Int), .int .u64 (m : Int), .int .u64 (t : Int), .string u, .string v, .string ⟨#[]⟩] zero97 #[.int .u64 (M : Int), .int .u64 (m : Int), .int .u64 (t : Int), .string ⟨#[]⟩, .string ⟨#[]⟩, .string x]) := hI
  clear hI
  have hI := hJ
  clear hJ
  have z0 : w7.cell? ⟨w.heap.size + 1 + 1, 0, none⟩ = some (.int .u64 (M : Int)) := (blk_cell hI.out.C 0).trans rfl
  have z1 : w7.cell? ⟨w.heap.size + 1 + 1, 1, none⟩ = some (.int .u64 (m : Int)) := (blk_cell hI.out.C 1).trans rfl
  have z2 : w7.cell? ⟨w.heap.size + 1 + 1, 2, none⟩ = some (.int .u64 (t : Int)) := (blk_cell hI.out.C 2).trans rfl
  have z3 : w7.cell? ⟨w.heap.size + 1 + 1, 3, none⟩ = some (.string ⟨#[]⟩) := (blk_cell hI.out.C 3).trans rfl
  have z4 : w7.cell? ⟨w.heap.size + 1 + 1, 4, none⟩ = some (.string ⟨#[]⟩) := (blk_cell hI.out.C 4).trans rfl
  have z5 : w7.cell? ⟨w.heap.size + 1 + 1, 5, none⟩ = some (.string x) := (blk_cell hI.out.C 5).trans rfl
  have y0 := blk_frozen hI.out.R 0
  have y1 := blk_frozen hI.out.R 1
  have y2 := blk_frozen hI.out.R 2
  have y3 := blk_frozen hI.out.R 3
  have y4 := blk_frozen hI.out.R 4
  have y5 := blk_frozen hI.out.R 5
  have r0 : w7.cell? ⟨w.heap.size + 1, 0, none⟩ = some (.int .u64 0) := (blk_cell hI.out.R 0).trans rfl
  have r1 : w7.cell? ⟨w.heap.size + 1, 1, none⟩ = some (.int .u64 0) := (blk_cell hI.out.R 1).trans rfl
  have r2 : w7.cell? ⟨w.heap.size + 1, 2, none⟩ = some (.int .u64 0) := (blk_cell hI.out.R 2).trans rfl
  have r3 : w7.cell? ⟨w.heap.size + 1, 3, none⟩ = some (.string ⟨#[]⟩) := (blk_cell hI.out.R 3).trans rfl
  have r4 : w7.cell? ⟨w.heap.size + 1, 4, none⟩ = some (.string ⟨#[]⟩) := (blk_cell hI.out.R 4).trans rfl
  have r5 : w7.cell? ⟨w.heap.size + 1, 5, none⟩ = some (.string ⟨#[]⟩) := (blk_cell hI.out.R 5).trans rfl
  go_wp2_with fail
  exact bodyPost_ret (v := .agg #[.int .u64 (M : Int), .int .u64 (m : Int), .int .u64 (t : Int), .string ⟨#[]⟩, .string ⟨#[]⟩, .string x]) (by simp [results, Tryd.results107, go_sem, r0, r1, r2, r3, r4, r5]) rfl ⟨rfl, (((((hI.out.B.setCell (Nat.le_succ _) _).setCell (Nat.le_succ _) _).setCell (Nat.le_succ _) _).setCell (Nat.le_succ _) _).setCell (Nat.le_succ _) _).setCell (Nat.le_succ _) _⟩
set_option maxHeartbeats 8000000 in
set_option maxRecDepth 100000 in
theorem incpatch_rel (M m t : Nat) (u v : ByteArray)  (hM : M < 18446744073709551616) (hm : m < 18446744073709551616) (ht : t < 18446744073709551616) (hu : u.size ≤ 65536) (hv : v.size ≤ 65536) (eu : u.toList.isEmpty = true) (hi : t + 1 < 18446744073709551616)  (w : World) (hT : Tab w) :
    Calls Tryd.prog 107 #[.agg #[.int .u64 (M : Int), .int .u64 (m : Int), .int .u64 (t : Int), .string u, .string v, .string ⟨#[]⟩]] w fun e w' => e = .returned (.agg #[.int .u64 (M : Int), .int .u64 (m : Int), .int .u64 ((t + 1 : Nat) : Int), .string ⟨#[]⟩, .string ⟨#[]⟩, .string (verT M m (t + 1) ⟨#[]⟩ ⟨#[]⟩)]) ∧ Below w.heap.size w w' := by
  have X0 := fun w1 h => String_any M m (t + 1) ⟨#[]⟩ ⟨#[]⟩ ⟨#[]⟩ hM hm hi (by decide) (by decide) w1 h
  have hx := verT_size M m (t + 1) ⟨#[]⟩ ⟨#[]⟩ hM hm hi (by decide) (by decide)
  generalize verT M m (t + 1) ⟨#[]⟩ ⟨#[]⟩ = x at X0 hx ⊢
  have X := Aside0.mk X0
  have hT2 := Aside0.mk hT.2
  have hI0 := Aside0.mk (tri_start w hT #[.int .u64 (M : Int), .int .u64 (m : Int), .int .u64 (t : Int), .string u, .string v, .string ⟨#[]⟩] #[.int .u64 (M : Int), .int .u64 (m : Int), .int .u64 ((t + 1 : Nat) : Int), .string ⟨#[]⟩, .string ⟨#[]⟩, .string ⟨#[]⟩])
  clear X0
  have eu2 : (!u.toList.isEmpty) = false := by rw [eu]; rfl
  have ei : ((t : Int) == 18446744073709551615) = false := by simpa using (by omega : ¬ (t : Int) = 18446744073709551615)
  clear hT
  go_enter Tryd.func107, Tryd.ntmps107
  go_wp2_with fail
  have hI := Aside0.mk (hI0.out.below (below_drew (Below.refl _ _)))
  clear hI0

  refine start_ (n := 8) (S := fun w' => w'.cell? ⟨w.heap.size, 0, none⟩ = some (.int .u64 (M : Int)) ∧ w'.cell? ⟨w.heap.size, 1, none⟩ = some (.int .u64 (m : Int)) ∧ w'.cell? ⟨w.heap.size, 2, none⟩ = some (.int .u64 (t : Int)) ∧ w'.cell? ⟨w.heap.size, 3, none⟩ = some (.string u) ∧ w'.cell? ⟨w.heap.size, 4, none⟩ = some (.string v) ∧ w'.cell? ⟨w.heap.size, 5, none⟩ = some (.string ⟨#[]⟩) ∧ w'.cell? ⟨w.heap.size + 1 + 1, 0, none⟩ = some (.int .u64 (M : Int)) ∧ w'.cell? ⟨w.heap.size + 1 + 1, 1, none⟩ = some (.int .u64 (m : Int)) ∧ w'.cell? ⟨w.heap.size + 1 + 1, 2, none⟩ = some (.int .u64 ((t + 1 : Nat) : Int)) ∧ w'.cell? ⟨w.heap.size + 1 + 1, 3, none⟩ = some (.string ⟨#[]⟩) ∧ w'.cell? ⟨w.heap.size + 1 + 1, 4, none⟩ = some (.string ⟨#[]⟩) ∧ w'.cell? ⟨w.heap.size + 1 + 1, 5, none⟩ = some (.string ⟨#[]⟩)) (ds := [7]) #[false, false, false, false, false, false, false, false] (by kernel_rfl) rfl rfl ⟨(blk_cell hI.out.A 0).trans rfl, (blk_cell hI.out.A 1).trans rfl, (blk_cell hI.out.A 2).trans rfl, (blk_cell hI.out.A 3).trans rfl, (blk_cell hI.out.A 4).trans rfl, (blk_cell hI.out.A 5).trans rfl, (blk_cell hI.out.C 0).trans rfl, (blk_cell hI.out.C 1).trans rfl, (blk_cell hI.out.C 2).trans rfl, (blk_cell hI.out.C 3).trans rfl, (blk_cell hI.out.C 4).trans rfl, (blk_cell hI.out.C 5).trans rfl⟩ (fun hHeld => ?_)
  refine take_ (i := 0) (N := some 20) (v := ?_) (a' := ?_) #[true, false, false, false, false, false, false, false] rfl rfl (by kernel_rfl) (fun _ _ _ h => h) (Or.inl ⟨by rfl, ?_⟩) hHeld ?_ ?_
  rotate_left
  · rintro w' ⟨s0, s1, s2, s3, s4, s5, r0, r1, r2, r3, r4, r5⟩
    go_simp
    with_reducible rfl
  rotate_left
  · simp only [Act.put, List.setIfInBounds_toArray, List.set_cons_zero, List.set_cons_succ, i64_w, i32_w]
    rfl
  refine take_ (i := 3) (N := some 23) (v := ?_) (a' := ?_) #[true, false, false, true, false, false, false, false] rfl rfl (by kernel_rfl) (fun _ _ _ h => h) (Or.inl ⟨by rfl, ?_⟩) hHeld ?_ ?_
  rotate_left
  · rintro w' ⟨s0, s1, s2, s3, s4, s5, r0, r1, r2, r3, r4, r5⟩
    go_simp
    with_reducible rfl
  rotate_left
  · simp only [Act.put, List.setIfInBounds_toArray, List.set_cons_zero, List.set_cons_succ, i64_w, i32_w]
    rfl
  refine one_ (i := 1) (N := some 21) #[true, true, false, true, false, false, false, false] rfl rfl (by kernel_rfl) (by decide) (fun K hK => ?_)
  refine goes_ Tryd.func149 (by kernel_rfl) rfl #[.agg #[.int .u64 (M : Int), .int .u64 (m : Int), .int .u64 (t : Int), .string u, .string v, .string ⟨#[]⟩]] (by rfl) rfl rfl (by (try simp only [List.map_toArray, List.map_cons, List.map_nil]); first | done | rfl) ?_
  refine (prefix_any _ _ _ u v _).mono ?_
  rintro e w1 ⟨rfl, hb⟩
  refine ⟨_, rfl, ?_⟩
  have hI2 := Aside0.mk (hI.out.below hb)
  clear hI hb
  have hI := hI2
  clear hI2
  refine hK.out _ _ ⟨(blk_cell hI.out.A 0).trans rfl, (blk_cell hI.out.A 1).trans rfl, (blk_cell hI.out.A 2).trans rfl, (blk_cell hI.out.A 3).trans rfl, (blk_cell hI.out.A 4).trans rfl, (blk_cell hI.out.A 5).trans rfl, (blk_cell hI.out.C 0).trans rfl, (blk_cell hI.out.C 1).trans rfl, (blk_cell hI.out.C 2).trans rfl, (blk_cell hI.out.C 3).trans rfl, (blk_cell hI.out.C 4).trans rfl, (blk_cell hI.out.C 5).trans rfl⟩ (fun hHeld => ?_)
  clear hK K
  refine norm_ (a' := ?_) ?_ ?_
  rotate_left
  · show Act.put _ (some 21) _ = _
    simp only [Act.put, List.setIfInBounds_toArray, List.set_cons_zero, List.set_cons_succ, i64_w, i32_w]
    rfl
  refine pure_ (i := 2) (N := some 22) (v := ?_) (a' := ?_) #[true, true, true, true, false, false, false, false] rfl rfl (by kernel_rfl) (fun _ _ _ h => h) (Or.inl ⟨by rfl, ?_⟩) ?_ ?_
  rotate_left
  · intro w'
    go_simp
    with_reducible rfl
  rotate_left
  · simp only [Act.put, List.setIfInBounds_toArray, List.set_cons_zero, List.set_cons_succ, i64_w, i32_w]
    rfl
  refine one_ (i := 4) (N := some 24) #[true, true, true, true, true, false, false, false] rfl rfl (by kernel_rfl) (by decide) (fun K hK => ?_)
  refine goes_ Tryd.func104 (by kernel_rfl) rfl #[.agg #[.int .u64 (M : Int), .int .u64 (m : Int), .int .u64 ((t + 1 : Nat) : Int), .string ⟨#[]⟩, .string ⟨#[]⟩, .string ⟨#[]⟩]] (by rfl) rfl rfl (by (try simp only [List.map_toArray, List.map_cons, List.map_nil]); first | done | rfl) ?_
  refine (X.out _ hI.out.tab).mono ?_
  rintro e w4 ⟨rfl, hb⟩
  refine ⟨_, rfl, ?_⟩
  have hI2 := Aside0.mk (hI.out.below hb)
  clear hI hb
  have hI := hI2
  clear hI2
  refine hK.out _ _ ⟨(blk_cell hI.out.A 0).trans rfl, (blk_cell hI.out.A 1).trans rfl, (blk_cell hI.out.A 2).trans rfl, (blk_cell hI.out.A 3).trans rfl, (blk_cell hI.out.A 4).trans rfl, (blk_cell hI.out.A 5).trans rfl, (blk_cell hI.out.C 0).trans rfl, (blk_cell hI.out.C 1).trans rfl, (blk_cell hI.out.C 2).trans rfl, (blk_cell hI.out.C 3).trans rfl, (blk_cell hI.out.C 4).trans rfl, (blk_cell hI.out.C 5).trans rfl⟩ (fun hHeld => ?_)
  clear hK K
  refine norm_ (a' := ?_) ?_ ?_
  rotate_left
  · show Act.put _ (some 24) _ = _
    simp only [Act.put, List.setIfInBounds_toArray, List.set_cons_zero, List.set_cons_succ, i64_w, i32_w]
    rfl
  refine pure_ (i := 5) (N := some 25) (v := ?_) (a' := ?_) #[true, true, true, true, true, true, false, false] rfl rfl (by kernel_rfl) (fun _ _ _ h => h) (Or.inl ⟨by rfl, ?_⟩) ?_ ?_
  rotate_left
  · intro w'
    go_simp
    rw [if_neg (by omega)]
  rotate_left
  · simp only [Act.put, List.setIfInBounds_toArray, List.set_cons_zero, List.set_cons_succ, i64_w, i32_w]
    rfl
  refine pure_ (i := 6) (N := some 26) (v := ?_) (a' := ?_) #[true, true, true, true, true, true, true, false] rfl rfl (by kernel_rfl) (fun _ _ _ h => h) (Or.inl ⟨by rfl, ?_⟩) ?_ ?_
  rotate_left
  · intro w'
    go_simp
    with_reducible rfl
  rotate_left
  · simp only [Act.put, List.setIfInBounds_toArray, List.set_cons_zero, List.set_cons_succ, i64_w, i32_w]
    rfl
  have hc5 := (blk_cell hI.out.C 5).trans rfl
  have hf5 := blk_frozen hI.out.C 5
  refine last_ (i := 7) (N := none) #[true, true, true, true, true, true, true, true] rfl rfl (by kernel_rfl) (by decide) (fun K hK => ?_)
  refine skip_ (w1 := ?_) (by rfl) rfl ?_ ?_
  rotate_left
  · go_simp
    rfl
  have hI2 := Aside0.mk (hI.out.setC hT2.out 5 (.string (⟨#[]⟩ ++ ⟨#[]⟩ ++ x)))
  refine hK.out _ _ ?_
  clear hK K hc5 hf5 hI hHeld
  have hI := hI2
  clear hI2
  refine done_ (by kernel_rfl) ?_
  rw [show ((⟨#[]⟩ : ByteArray) ++ ⟨#[]⟩ ++ x) = x from e00 x] at hI ⊢
  generalize World.setCell _ _ (.string x) = w7 at hI ⊢
  have hJ : Aside0 (Tri w w7 #[.int .u64 (M : Int), .int .u64 (m : Int), .int .u64 (t : Int), .string u, .string v, .string ⟨#[]⟩] zero97 #[.int .u64 (M : Int), .int .u64 (m : Int), .int .u64 ((t + 1 : Nat) : Int), .string ⟨#[]⟩, .string ⟨#[]⟩, .string x]) := hI
  clear hI
  have hI := hJ
  clear hJ
  have z0 : w7.cell? ⟨w.heap.size + 1 + 1, 0, none⟩ = some (.int .u64 (M : Int)) := (blk_cell hI.out.C 0).trans rfl
  have z1 : w7.cell? ⟨w.heap.size + 1 + 1, 1, none⟩ = some (.int .u64 (m : Int)) := (blk_cell hI.out.C 1).trans rfl
  have z2 : w7.cell? ⟨w.heap.size + 1 + 1, 2, none⟩ = some (.int .u64 ((t + 1 : Nat) : Int)) := (blk_cell hI.out.C 2).trans rfl
  have z3 : w7.cell? ⟨w.heap.size + 1 + 1, 3, none⟩ = some (.string ⟨#[]⟩) := (blk_cell hI.out.C 3).trans rfl
  have z4 : w7.cell? ⟨w.heap.size + 1 + 1, 4, none⟩ = some (.string ⟨#[]⟩) := (blk_cell hI.out.C 4).trans rfl
  have z5 : w7.cell? ⟨w.heap.size + 1 + 1, 5, none⟩ = some (.string x) := (blk_cell hI.out.C 5).trans rfl
  have y0 := blk_frozen hI.out.R 0
  have y1 := blk_frozen hI.out.R 1
  have y2 := blk_frozen hI.out.R 2
  have y3 := blk_frozen hI.out.R 3
  have y4 := blk_frozen hI.out.R 4
  have y5 := blk_frozen hI.out.R 5
  have r0 : w7.cell? ⟨w.heap.size + 1, 0, none⟩ = some (.int .u64 0) := (blk_cell hI.out.R 0).trans rfl
  have r1 : w7.cell? ⟨w.heap.size + 1, 1, none⟩ = some (.int .u64 0) := (blk_cell hI.out.R 1).trans rfl
  have r2 : w7.cell? ⟨w.heap.size + 1, 2, none⟩ = some (.int .u64 0) := (blk_cell hI.out.R 2).trans rfl
  have r3 : w7.cell? ⟨w.heap.size + 1, 3, none⟩ = some (.string ⟨#[]⟩) := (blk_cell hI.out.R 3).trans rfl
  have r4 : w7.cell? ⟨w.heap.size + 1, 4, none⟩ = some (.string ⟨#[]⟩) := (blk_cell hI.out.R 4).trans rfl
  have r5 : w7.cell? ⟨w.heap.size + 1, 5, none⟩ = some (.string ⟨#[]⟩) := (blk_cell hI.out.R 5).trans rfl
  go_wp2_with fail
  exact bodyPost_ret (v := .agg #[.int .u64 (M : Int), .int .u64 (m : Int), .int .u64 ((t + 1 : Nat) : Int), .string ⟨#[]⟩, .string ⟨#[]⟩, .string x]) (by simp [results, Tryd.results107, go_sem, r0, r1, r2, r3, r4, r5]) rfl ⟨rfl, (((((hI.out.B.setCell (Nat.le_succ _) _).setCell (Nat.le_succ _) _).setCell (Nat.le_succ _) _).setCell (Nat.le_succ _) _).setCell (Nat.le_succ _) _).setCell (Nat.le_succ _) _⟩
set_option maxHeartbeats 8000000 in
set_option maxRecDepth 100000 in
theorem incminor_any (M m t : Nat) (u v : ByteArray)  (hM : M < 18446744073709551616) (hm : m < 18446744073709551616) (ht : t < 18446744073709551616) (hu : u.size ≤ 65536) (hv : v.size ≤ 65536) (hi : m + 1 < 18446744073709551616)  (w : World) (hT : Tab w) :
    Calls Tryd.prog 109 #[.agg #[.int .u64 (M : Int), .int .u64 (m : Int), .int .u64 (t : Int), .string u, .string v, .string ⟨#[]⟩]] w fun e w' => e = .returned (.agg #[.int .u64 (M : Int), .int .u64 ((m + 1 : Nat) : Int), .int .u64 0, .string ⟨#[]⟩, .string ⟨#[]⟩, .string (verT M (m + 1) 0 ⟨#[]⟩ ⟨#[]⟩)]) ∧ Below w.heap.size w w' := by
  have X0 := fun w1 h => String_any M (m + 1) 0 ⟨#[]⟩ ⟨#[]⟩ ⟨#[]⟩ hM hi (by decide) (by decide) (by decide) w1 h
  have hx := verT_size M (m + 1) 0 ⟨#[]⟩ ⟨#[]⟩ hM hi (by decide) (by decide) (by decide)
  generalize verT M (m + 1) 0 ⟨#[]⟩ ⟨#[]⟩ = x at X0 hx ⊢
  have X := Aside0.mk X0
  have hT2 := Aside0.mk hT.2
  have hI0 := Aside0.mk (tri_start w hT #[.int .u64 (M : Int), .int .u64 (m : Int), .int .u64 (t : Int), .string u, .string v, .string ⟨#[]⟩] #[.int .u64 (M : Int), .int .u64 ((m + 1 : Nat) : Int), .int .u64 0, .string ⟨#[]⟩, .string ⟨#[]⟩, .string ⟨#[]⟩])
  clear X0
  have ei : ((m : Int) == 18446744073709551615) = false := by simpa using (by omega : ¬ (m : Int) = 18446744073709551615)
  clear hT
  go_enter Tryd.func109, Tryd.ntmps109
  go_wp2_with fail
  have hI := Aside0.mk (hI0.out.below (below_drew (Below.refl _ _)))
  clear hI0

  refine start_ (n := 8) (S := fun w' => w'.cell? ⟨w.heap.size, 0, none⟩ = some (.int .u64 (M : Int)) ∧ w'.cell? ⟨w.heap.size, 1, none⟩ = some (.int .u64 (m : Int)) ∧ w'.cell? ⟨w.heap.size, 2, none⟩ = some (.int .u64 (t : Int)) ∧ w'.cell? ⟨w.heap.size, 3, none⟩ = some (.string u) ∧ w'.cell? ⟨w.heap.size, 4, none⟩ = some (.string v) ∧ w'.cell? ⟨w.heap.size, 5, none⟩ = some (.string ⟨#[]⟩) ∧ w'.cell? ⟨w.heap.size + 1 + 1, 0, none⟩ = some (.int .u64 (M : Int)) ∧ w'.cell? ⟨w.heap.size + 1 + 1, 1, none⟩ = some (.int .u64 ((m + 1 : Nat) : Int)) ∧ w'.cell? ⟨w.heap.size + 1 + 1, 2, none⟩ = some (.int .u64 0) ∧ w'.cell? ⟨w.heap.size + 1 + 1, 3, none⟩ = some (.string ⟨#[]⟩) ∧ w'.cell? ⟨w.heap.size + 1 + 1, 4, none⟩ = some (.string ⟨#[]⟩) ∧ w'.cell? ⟨w.heap.size + 1 + 1, 5, none⟩ = some (.string ⟨#[]⟩)) (ds := [7]) #[false, false, false, false, false, false, false, false] (by kernel_rfl) rfl rfl ⟨(blk_cell hI.out.A 0).trans rfl, (blk_cell hI.out.A 1).trans rfl, (blk_cell hI.out.A 2).trans rfl, (blk_cell hI.out.A 3).trans rfl, (blk_cell hI.out.A 4).trans rfl, (blk_cell hI.out.A 5).trans rfl, (blk_cell hI.out.C 0).trans rfl, (blk_cell hI.out.C 1).trans rfl, (blk_cell hI.out.C 2).trans rfl, (blk_cell hI.out.C 3).trans rfl, (blk_cell hI.out.C 4).trans rfl, (blk_cell hI.out.C 5).trans rfl⟩ (fun hHeld => ?_)
  refine take_ (i := 0) (N := some 16) (v := ?_) (a' := ?_) #[true, false, false, false, false, false, false, false] rfl rfl (by kernel_rfl) (fun _ _ _ h => h) (Or.inl ⟨by rfl, ?_⟩) hHeld ?_ ?_
  rotate_left
  · rintro w' ⟨s0, s1, s2, s3, s4, s5, r0, r1, r2, r3, r4, r5⟩
    go_simp
    with_reducible rfl
  rotate_left
  · simp only [Act.put, List.setIfInBounds_toArray, List.set_cons_zero, List.set_cons_succ, i64_w, i32_w]
    rfl
  refine take_ (i := 3) (N := some 19) (v := ?_) (a' := ?_) #[true, false, false, true, false, false, false, false] rfl rfl (by kernel_rfl) (fun _ _ _ h => h) (Or.inl ⟨by rfl, ?_⟩) hHeld ?_ ?_
  rotate_left
  · rintro w' ⟨s0, s1, s2, s3, s4, s5, r0, r1, r2, r3, r4, r5⟩
    go_simp
    with_reducible rfl
  rotate_left
  · simp only [Act.put, List.setIfInBounds_toArray, List.set_cons_zero, List.set_cons_succ, i64_w, i32_w]
    rfl
  refine one_ (i := 1) (N := some 17) #[true, true, false, true, false, false, false, false] rfl rfl (by kernel_rfl) (by decide) (fun K hK => ?_)
  refine goes_ Tryd.func149 (by kernel_rfl) rfl #[.agg #[.int .u64 (M : Int), .int .u64 (m : Int), .int .u64 (t : Int), .string u, .string v, .string ⟨#[]⟩]] (by rfl) rfl rfl (by (try simp only [List.map_toArray, List.map_cons, List.map_nil]); first | done | rfl) ?_
  refine (prefix_any _ _ _ u v _).mono ?_
  rintro e w1 ⟨rfl, hb⟩
  refine ⟨_, rfl, ?_⟩
  have hI2 := Aside0.mk (hI.out.below hb)
  clear hI hb
  have hI := hI2
  clear hI2
  refine hK.out _ _ ⟨(blk_cell hI.out.A 0).trans rfl, (blk_cell hI.out.A 1).trans rfl, (blk_cell hI.out.A 2).trans rfl, (blk_cell hI.out.A 3).trans rfl, (blk_cell hI.out.A 4).trans rfl, (blk_cell hI.out.A 5).trans rfl, (blk_cell hI.out.C 0).trans rfl, (blk_cell hI.out.C 1).trans rfl, (blk_cell hI.out.C 2).trans rfl, (blk_cell hI.out.C 3).trans rfl, (blk_cell hI.out.C 4).trans rfl, (blk_cell hI.out.C 5).trans rfl⟩ (fun hHeld => ?_)
  clear hK K
  refine norm_ (a' := ?_) ?_ ?_
  rotate_left
  · show Act.put _ (some 17) _ = _
    simp only [Act.put, List.setIfInBounds_toArray, List.set_cons_zero, List.set_cons_succ, i64_w, i32_w]
    rfl
  refine pure_ (i := 2) (N := some 18) (v := ?_) (a' := ?_) #[true, true, true, true, false, false, false, false] rfl rfl (by kernel_rfl) (fun _ _ _ h => h) (Or.inl ⟨by rfl, ?_⟩) ?_ ?_
  rotate_left
  · intro w'
    go_simp
    with_reducible rfl
  rotate_left
  · simp only [Act.put, List.setIfInBounds_toArray, List.set_cons_zero, List.set_cons_succ, i64_w, i32_w]
    rfl
  refine one_ (i := 4) (N := some 20) #[true, true, true, true, true, false, false, false] rfl rfl (by kernel_rfl) (by decide) (fun K hK => ?_)
  refine goes_ Tryd.func104 (by kernel_rfl) rfl #[.agg #[.int .u64 (M : Int), .int .u64 ((m + 1 : Nat) : Int), .int .u64 0, .string ⟨#[]⟩, .string ⟨#[]⟩, .string ⟨#[]⟩]] (by rfl) rfl rfl (by (try simp only [List.map_toArray, List.map_cons, List.map_nil]); first | done | rfl) ?_
  refine (X.out _ hI.out.tab).mono ?_
  rintro e w4 ⟨rfl, hb⟩
  refine ⟨_, rfl, ?_⟩
  have hI2 := Aside0.mk (hI.out.below hb)
  clear hI hb
  have hI := hI2
  clear hI2
  refine hK.out _ _ ⟨(blk_cell hI.out.A 0).trans rfl, (blk_cell hI.out.A 1).trans rfl, (blk_cell hI.out.A 2).trans rfl, (blk_cell hI.out.A 3).trans rfl, (blk_cell hI.out.A 4).trans rfl, (blk_cell hI.out.A 5).trans rfl, (blk_cell hI.out.C 0).trans rfl, (blk_cell hI.out.C 1).trans rfl, (blk_cell hI.out.C 2).trans rfl, (blk_cell hI.out.C 3).trans rfl, (blk_cell hI.out.C 4).trans rfl, (blk_cell hI.out.C 5).trans rfl⟩ (fun hHeld => ?_)
  clear hK K
  refine norm_ (a' := ?_) ?_ ?_
  rotate_left
  · show Act.put _ (some 20) _ = _
    simp only [Act.put, List.setIfInBounds_toArray, List.set_cons_zero, List.set_cons_succ, i64_w, i32_w]
    rfl
  refine pure_ (i := 5) (N := some 21) (v := ?_) (a' := ?_) #[true, true, true, true, true, true, false, false] rfl rfl (by kernel_rfl) (fun _ _ _ h => h) (Or.inl ⟨by rfl, ?_⟩) ?_ ?_
  rotate_left
  · intro w'
    go_simp
    rw [if_neg (by omega)]
  rotate_left
  · simp only [Act.put, List.setIfInBounds_toArray, List.set_cons_zero, List.set_cons_succ, i64_w, i32_w]
    rfl
  refine pure_ (i := 6) (N := some 22) (v := ?_) (a' := ?_) #[true, true, true, true, true, true, true, false] rfl rfl (by kernel_rfl) (fun _ _ _ h => h) (Or.inl ⟨by rfl, ?_⟩) ?_ ?_
  rotate_left
  · intro w'
    go_simp
    with_reducible rfl
  rotate_left
  · simp only [Act.put, List.setIfInBounds_toArray, List.set_cons_zero, List.set_cons_succ, i64_w, i32_w]
    rfl
  have hc5 := (blk_cell hI.out.C 5).trans rfl
  have hf5 := blk_frozen hI.out.C 5
  refine last_ (i := 7) (N := none) #[true, true, true, true, true, true, true, true] rfl rfl (by kernel_rfl) (by decide) (fun K hK => ?_)
  refine skip_ (w1 := ?_) (by rfl) rfl ?_ ?_
  rotate_left
  · go_simp
    rfl
  have hI2 := Aside0.mk (hI.out.setC hT2.out 5 (.string (⟨#[]⟩ ++ ⟨#[]⟩ ++ x)))
  refine hK.out _ _ ?_
  clear hK K hc5 hf5 hI hHeld
  have hI := hI2
  clear hI2
  refine done_ (by kernel_rfl) ?_
  rw [show ((⟨#[]⟩ : ByteArray) ++ ⟨#[]⟩ ++ x) = x from e00 x] at hI ⊢
  generalize World.setCell _ _ (.string x) = w7 at hI ⊢
  have hJ : Aside0 (Tri w w7 #[.int .u64 (M : Int), .int .u64 (m : Int), .int .u64 (t : Int), .string u, .string v, .string ⟨#[]⟩] zero97 #[.int .u64 (M : Int), .int .u64 ((m + 1 : Nat) : Int), .int .u64 0, .string ⟨#[]⟩, .string ⟨#[]⟩, .string x]) := hI
  clear hI
  have hI := hJ
  clear hJ
  have z0 : w7.cell? ⟨w.heap.size + 1 + 1, 0, none⟩ = some (.int .u64 (M : Int)) := (blk_cell hI.out.C 0).trans rfl
  have z1 : w7.cell? ⟨w.heap.size + 1 + 1, 1, none⟩ = some (.int .u64 ((m + 1 : Nat) : Int)) := (blk_cell hI.out.C 1).trans rfl
  have z2 : w7.cell? ⟨w.heap.size + 1 + 1, 2, none⟩ = some (.int .u64 0) := (blk_cell hI.out.C 2).trans rfl
  have z3 : w7.cell? ⟨w.heap.size + 1 + 1, 3, none⟩ = some (.string ⟨#[]⟩) := (blk_cell hI.out.C 3).trans rfl
  have z4 : w7.cell? ⟨w.heap.size + 1 + 1, 4, none⟩ = some (.string ⟨#[]⟩) := (blk_cell hI.out.C 4).trans rfl
  have z5 : w7.cell? ⟨w.heap.size + 1 + 1, 5, none⟩ = some (.string x) := (blk_cell hI.out.C 5).trans rfl
  have y0 := blk_frozen hI.out.R 0
  have y1 := blk_frozen hI.out.R 1
  have y2 := blk_frozen hI.out.R 2
  have y3 := blk_frozen hI.out.R 3
  have y4 := blk_frozen hI.out.R 4
  have y5 := blk_frozen hI.out.R 5
  have r0 : w7.cell? ⟨w.heap.size + 1, 0, none⟩ = some (.int .u64 0) := (blk_cell hI.out.R 0).trans rfl
  have r1 : w7.cell? ⟨w.heap.size + 1, 1, none⟩ = some (.int .u64 0) := (blk_cell hI.out.R 1).trans rfl
  have r2 : w7.cell? ⟨w.heap.size + 1, 2, none⟩ = some (.int .u64 0) := (blk_cell hI.out.R 2).trans rfl
  have r3 : w7.cell? ⟨w.heap.size + 1, 3, none⟩ = some (.string ⟨#[]⟩) := (blk_cell hI.out.R 3).trans rfl
  have r4 : w7.cell? ⟨w.heap.size + 1, 4, none⟩ = some (.string ⟨#[]⟩) := (blk_cell hI.out.R 4).trans rfl
  have r5 : w7.cell? ⟨w.heap.size + 1, 5, none⟩ = some (.string ⟨#[]⟩) := (blk_cell hI.out.R 5).trans rfl
  go_wp2_with fail
  exact bodyPost_ret (v := .agg #[.int .u64 (M : Int), .int .u64 ((m + 1 : Nat) : Int), .int .u64 0, .string ⟨#[]⟩, .string ⟨#[]⟩, .string x]) (by simp [results, Tryd.results109, go_sem, r0, r1, r2, r3, r4, r5]) rfl ⟨rfl, (((((hI.out.B.setCell (Nat.le_succ _) _).setCell (Nat.le_succ _) _).setCell (Nat.le_succ _) _).setCell (Nat.le_succ _) _).setCell (Nat.le_succ _) _).setCell (Nat.le_succ _) _⟩
set_option maxHeartbeats 8000000 in
set_option maxRecDepth 100000 in
theorem incmajor_any (M m t : Nat) (u v : ByteArray)  (hM : M < 18446744073709551616) (hm : m < 18446744073709551616) (ht : t < 18446744073709551616) (hu : u.size ≤ 65536) (hv : v.size ≤ 65536) (hi : M + 1 < 18446744073709551616)  (w : World) (hT : Tab w) :
    Calls Tryd.prog 110 #[.agg #[.int .u64 (M : Int), .int .u64 (m : Int), .int .u64 (t : Int), .string u, .string v, .string ⟨#[]⟩]] w fun e w' => e = .returned (.agg #[.int .u64 ((M + 1 : Nat) : Int), .int .u64 0, .int .u64 0, .string ⟨#[]⟩, .string ⟨#[]⟩, .string (verT (M + 1) 0 0 ⟨#[]⟩ ⟨#[]⟩)]) ∧ Below w.heap.size w w' := by
  have X0 := fun w1 h => String_any (M + 1) 0 0 ⟨#[]⟩ ⟨#[]⟩ ⟨#[]⟩ hi (by decide) (by decide) (by decide) (by decide) w1 h
  have hx := verT_size (M + 1) 0 0 ⟨#[]⟩ ⟨#[]⟩ hi (by decide) (by decide) (by decide) (by decide)
  generalize verT (M + 1) 0 0 ⟨#[]⟩ ⟨#[]⟩ = x at X0 hx ⊢
  have X := Aside0.mk X0
  have hT2 := Aside0.mk hT.2
  have hI0 := Aside0.mk (tri_start w hT #[.int .u64 (M : Int), .int .u64 (m : Int), .int .u64 (t : Int), .string u, .string v, .string ⟨#[]⟩] #[.int .u64 ((M + 1 : Nat) : Int), .int .u64 0, .int .u64 0, .string ⟨#[]⟩, .string ⟨#[]⟩, .string ⟨#[]⟩])
  clear X0
  have ei : ((M : Int) == 18446744073709551615) = false := by simpa using (by omega : ¬ (M : Int) = 18446744073709551615)
  clear hT
  go_enter Tryd.func110, Tryd.ntmps110
  go_wp2_with fail
  have hI := Aside0.mk (hI0.out.below (below_drew (Below.refl _ _)))
  clear hI0

  refine start_ (n := 8) (S := fun w' => w'.cell? ⟨w.heap.size, 0, none⟩ = some (.int .u64 (M : Int)) ∧ w'.cell? ⟨w.heap.size, 1, none⟩ = some (.int .u64 (m : Int)) ∧ w'.cell? ⟨w.heap.size, 2, none⟩ = some (.int .u64 (t : Int)) ∧ w'.cell? ⟨w.heap.size, 3, none⟩ = some (.string u) ∧ w'.cell? ⟨w.heap.size, 4, none⟩ = some (.string v) ∧ w'.cell? ⟨w.heap.size, 5, none⟩ = some (.string ⟨#[]⟩) ∧ w'.cell? ⟨w.heap.size + 1 + 1, 0, none⟩ = some (.int .u64 ((M + 1 : Nat) : Int)) ∧ w'.cell? ⟨w.heap.size + 1 + 1, 1, none⟩ = some (.int .u64 0) ∧ w'.cell? ⟨w.heap.size + 1 + 1, 2, none⟩ = some (.int .u64 0) ∧ w'.cell? ⟨w.heap.size + 1 + 1, 3, none⟩ = some (.string ⟨#[]⟩) ∧ w'.cell? ⟨w.heap.size + 1 + 1, 4, none⟩ = some (.string ⟨#[]⟩) ∧ w'.cell? ⟨w.heap.size + 1 + 1, 5, none⟩ = some (.string ⟨#[]⟩)) (ds := [7]) #[false, false, false, false, false, false, false, false] (by kernel_rfl) rfl rfl ⟨(blk_cell hI.out.A 0).trans rfl, (blk_cell hI.out.A 1).trans rfl, (blk_cell hI.out.A 2).trans rfl, (blk_cell hI.out.A 3).trans rfl, (blk_cell hI.out.A 4).trans rfl, (blk_cell hI.out.A 5).trans rfl, (blk_cell hI.out.C 0).trans rfl, (blk_cell hI.out.C 1).trans rfl, (blk_cell hI.out.C 2).trans rfl, (blk_cell hI.out.C 3).trans rfl, (blk_cell hI.out.C 4).trans rfl, (blk_cell hI.out.C 5).trans rfl⟩ (fun hHeld => ?_)
  refine take_ (i := 0) (N := some 17) (v := ?_) (a' := ?_) #[true, false, false, false, false, false, false, false] rfl rfl (by kernel_rfl) (fun _ _ _ h => h) (Or.inl ⟨by rfl, ?_⟩) hHeld ?_ ?_
  rotate_left
  · rintro w' ⟨s0, s1, s2, s3, s4, s5, r0, r1, r2, r3, r4, r5⟩
    go_simp
    with_reducible rfl
  rotate_left
  · simp only [Act.put, List.setIfInBounds_toArray, List.set_cons_zero, List.set_cons_succ, i64_w, i32_w]
    rfl
  refine take_ (i := 3) (N := some 20) (v := ?_) (a' := ?_) #[true, false, false, true, false, false, false, false] rfl rfl (by kernel_rfl) (fun _ _ _ h => h) (Or.inl ⟨by rfl, ?_⟩) hHeld ?_ ?_
  rotate_left
  · rintro w' ⟨s0, s1, s2, s3, s4, s5, r0, r1, r2, r3, r4, r5⟩
    go_simp
    with_reducible rfl
  rotate_left
  · simp only [Act.put, List.setIfInBounds_toArray, List.set_cons_zero, List.set_cons_succ, i64_w, i32_w]
    rfl
  refine one_ (i := 1) (N := some 18) #[true, true, false, true, false, false, false, false] rfl rfl (by kernel_rfl) (by decide) (fun K hK => ?_)
  refine goes_ Tryd.func149 (by kernel_rfl) rfl #[.agg #[.int .u64 (M : Int), .int .u64 (m : Int), .int .u64 (t : Int), .string u, .string v, .string ⟨#[]⟩]] (by rfl) rfl rfl (by (try simp only [List.map_toArray, List.map_cons, List.map_nil]); first | done | rfl) ?_
  refine (prefix_any _ _ _ u v _).mono ?_
  rintro e w1 ⟨rfl, hb⟩
  refine ⟨_, rfl, ?_⟩
  have hI2 := Aside0.mk (hI.out.below hb)
  clear hI hb
  have hI := hI2
  clear hI2
  refine hK.out _ _ ⟨(blk_cell hI.out.A 0).trans rfl, (blk_cell hI.out.A 1).trans rfl, (blk_cell hI.out.A 2).trans rfl, (blk_cell hI.out.A 3).trans rfl, (blk_cell hI.out.A 4).trans rfl, (blk_cell hI.out.A 5).trans rfl, (blk_cell hI.out.C 0).trans rfl, (blk_cell hI.out.C 1).trans rfl, (blk_cell hI.out.C 2).trans rfl, (blk_cell hI.out.C 3).trans rfl, (blk_cell hI.out.C 4).trans rfl, (blk_cell hI.out.C 5).trans rfl⟩ (fun hHeld => ?_)
  clear hK K
  refine norm_ (a' := ?_) ?_ ?_
  rotate_left
  · show Act.put _ (some 18) _ = _
    simp only [Act.put, List.setIfInBounds_toArray, List.set_cons_zero, List.set_cons_succ, i64_w, i32_w]
    rfl
  refine pure_ (i := 2) (N := some 19) (v := ?_) (a' := ?_) #[true, true, true, true, false, false, false, false] rfl rfl (by kernel_rfl) (fun _ _ _ h => h) (Or.inl ⟨by rfl, ?_⟩) ?_ ?_
  rotate_left
  · intro w'
    go_simp
    with_reducible rfl
  rotate_left
  · simp only [Act.put, List.setIfInBounds_toArray, List.set_cons_zero, List.set_cons_succ, i64_w, i32_w]
    rfl
  refine one_ (i := 4) (N := some 21) #[true, true, true, true, true, false, false, false] rfl rfl (by kernel_rfl) (by decide) (fun K hK => ?_)
  refine goes_ Tryd.func104 (by kernel_rfl) rfl #[.agg #[.int .u64 ((M + 1 : Nat) : Int), .int .u64 0, .int .u64 0, .string ⟨#[]⟩, .string ⟨#[]⟩, .string ⟨#[]⟩]] (by rfl) rfl rfl (by (try simp only [List.map_toArray, List.map_cons, List.map_nil]); first | done | rfl) ?_
  refine (X.out _ hI.out.tab).mono ?_
  rintro e w4 ⟨rfl, hb⟩
  refine ⟨_, rfl, ?_⟩
  have hI2 := Aside0.mk (hI.out.below hb)
  clear hI hb
  have hI := hI2
  clear hI2
  refine hK.out _ _ ⟨(blk_cell hI.out.A 0).trans rfl, (blk_cell hI.out.A 1).trans rfl, (blk_cell hI.out.A 2).trans rfl, (blk_cell hI.out.A 3).trans rfl, (blk_cell hI.out.A 4).trans rfl, (blk_cell hI.out.A 5).trans rfl, (blk_cell hI.out.C 0).trans rfl, (blk_cell hI.out.C 1).trans rfl, (blk_cell hI.out.C 2).trans rfl, (blk_cell hI.out.C 3).trans rfl, (blk_cell hI.out.C 4).trans rfl, (blk_cell hI.out.C 5).trans rfl⟩ (fun hHeld => ?_)
  clear hK K
  refine norm_ (a' := ?_) ?_ ?_
  rotate_left
  · show Act.put _ (some 21) _ = _
    simp only [Act.put, List.setIfInBounds_toArray, List.set_cons_zero, List.set_cons_succ, i64_w, i32_w]
    rfl
  refine pure_ (i := 5) (N := some 22) (v := ?_) (a' := ?_) #[true, true, true, true, true, true, false, false] rfl rfl (by kernel_rfl) (fun _ _ _ h => h) (Or.inl ⟨by rfl, ?_⟩) ?_ ?_
  rotate_left
  · intro w'
    go_simp
    rw [if_neg (by omega)]
  rotate_left
  · simp only [Act.put, List.setIfInBounds_toArray, List.set_cons_zero, List.set_cons_succ, i64_w, i32_w]
    rfl
  refine pure_ (i := 6) (N := some 23) (v := ?_) (a' := ?_) #[true, true, true, true, true, true, true, false] rfl rfl (by kernel_rfl) (fun _ _ _ h => h) (Or.inl ⟨by rfl, ?_⟩) ?_ ?_
  rotate_left
  · intro w'
    go_simp
    with_reducible rfl
  rotate_left
  · simp only [Act.put, List.setIfInBounds_toArray, List.set_cons_zero, List.set_cons_succ, i64_w, i32_w]
    rfl
  have hc5 := (blk_cell hI.out.C 5).trans rfl
  have hf5 := blk_frozen hI.out.C 5
  refine last_ (i := 7) (N := none) #[true, true, true, true, true, true, true, true] rfl rfl (by kernel_rfl) (by decide) (fun K hK => ?_)
  refine skip_ (w1 := ?_) (by rfl) rfl ?_ ?_
  rotate_left
  · go_simp
    rfl
  have hI2 := Aside0.mk (hI.out.setC hT2.out 5 (.string (⟨#[]⟩ ++ ⟨#[]⟩ ++ x)))
  refine hK.out _ _ ?_
  clear hK K hc5 hf5 hI hHeld
  have hI := hI2
  clear hI2
  refine done_ (by kernel_rfl) ?_
  rw [show ((⟨#[]⟩ : ByteArray) ++ ⟨#[]⟩ ++ x) = x from e00 x] at hI ⊢
  generalize World.setCell _ _ (.string x) = w7 at hI ⊢
  have hJ : Aside0 (Tri w w7 #[.int .u64 (M : Int), .int .u64 (m : Int), .int .u64 (t : Int), .string u, .string v, .string ⟨#[]⟩] zero97 #[.int .u64 ((M + 1 : Nat) : Int), .int .u64 0, .int .u64 0, .string ⟨#[]⟩, .string ⟨#[]⟩, .string x]) := hI
  clear hI
  have hI := hJ
  clear hJ
  have z0 : w7.cell? ⟨w.heap.size + 1 + 1, 0, none⟩ = some (.int .u64 ((M + 1 : Nat) : Int)) := (blk_cell hI.out.C 0).trans rfl
  have z1 : w7.cell? ⟨w.heap.size + 1 + 1, 1, none⟩ = some (.int .u64 0) := (blk_cell hI.out.C 1).trans rfl
  have z2 : w7.cell? ⟨w.heap.size + 1 + 1, 2, none⟩ = some (.int .u64 0) := (blk_cell hI.out.C 2).trans rfl
  have z3 : w7.cell? ⟨w.heap.size + 1 + 1, 3, none⟩ = some (.string ⟨#[]⟩) := (blk_cell hI.out.C 3).trans rfl
  have z4 : w7.cell? ⟨w.heap.size + 1 + 1, 4, none⟩ = some (.string ⟨#[]⟩) := (blk_cell hI.out.C 4).trans rfl
  have z5 : w7.cell? ⟨w.heap.size + 1 + 1, 5, none⟩ = some (.string x) := (blk_cell hI.out.C 5).trans rfl
  have y0 := blk_frozen hI.out.R 0
  have y1 := blk_frozen hI.out.R 1
  have y2 := blk_frozen hI.out.R 2
  have y3 := blk_frozen hI.out.R 3
  have y4 := blk_frozen hI.out.R 4
  have y5 := blk_frozen hI.out.R 5
  have r0 : w7.cell? ⟨w.heap.size + 1, 0, none⟩ = some (.int .u64 0) := (blk_cell hI.out.R 0).trans rfl
  have r1 : w7.cell? ⟨w.heap.size + 1, 1, none⟩ = some (.int .u64 0) := (blk_cell hI.out.R 1).trans rfl
  have r2 : w7.cell? ⟨w.heap.size + 1, 2, none⟩ = some (.int .u64 0) := (blk_cell hI.out.R 2).trans rfl
  have r3 : w7.cell? ⟨w.heap.size + 1, 3, none⟩ = some (.string ⟨#[]⟩) := (blk_cell hI.out.R 3).trans rfl
  have r4 : w7.cell? ⟨w.heap.size + 1, 4, none⟩ = some (.string ⟨#[]⟩) := (blk_cell hI.out.R 4).trans rfl
  have r5 : w7.cell? ⟨w.heap.size + 1, 5, none⟩ = some (.string ⟨#[]⟩) := (blk_cell hI.out.R 5).trans rfl
  go_wp2_with fail
  exact bodyPost_ret (v := .agg #[.int .u64 ((M + 1 : Nat) : Int), .int .u64 0, .int .u64 0, .string ⟨#[]⟩, .string ⟨#[]⟩, .string x]) (by simp [results, Tryd.results110, go_sem, r0, r1, r2, r3, r4, r5]) rfl ⟨rfl, (((((hI.out.B.setCell (Nat.le_succ _) _).setCell (Nat.le_succ _) _).setCell (Nat.le_succ _) _).setCell (Nat.le_succ _) _).setCell (Nat.le_succ _) _).setCell (Nat.le_succ _) _⟩
end Go.Proofs.YtalpehfjjidfhaaDoor.MS
