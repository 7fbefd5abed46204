/- A job within wrappers, run: one wrapper, and all of them. -/
import Derived.Test.YtlnidaidpdbaiaaChnA
namespace Go.Proofs.Ytlnidaidpdbaiaa.Ch
open Go Go.RowKit MC
open Go.Proofs.YtlnidaidpdbaiaaW.PrintWords Go.Proofs.YtlnidaidpdbaiaaW.PrintLast Go.Proofs.YtlnidaidpdbaiaaW.PrintMore
set_option linter.unusedVariables false
set_option linter.unusedSimpArgs false
theorem St.kept {t B : Nat} {w0 w : World} {v : Value} {xs : List Int} (h : St t B w0 w v xs) {g : Nat} {o : Obj} (h0 : w0.heap[g]? = some o) (hg : g < B) (hn : g ≠ t) : w.heap[g]? = some o := (h.keep g hg hn).trans h0
theorem St.kept_grown {t B : Nat} {w0 w w1 : World} {v : Value} {xs : List Int} (h : St t B w0 w v xs) {g : Nat} {o : Obj} (h0 : w0.heap[g]? = some o) (hg : g < B) (hn : g ≠ t) (hgr : w.grownBy w1 v.ownBlock) : w1.heap[g]? = some o := blk_grown (h.kept h0 hg hn) hgr (own_far h.own hg)
set_option maxHeartbeats 4000000 in
set_option maxRecDepth 100000 in
/-- One wrapper: it notes its number, runs what it wraps, and notes its number with the other sign. -/
theorem note_any (t B : Nat) (w0 : World) (gt gw gj : Nat) (a : Int) (r : List Int) (J' : Value) (hgt : w0.heap[gt]? = some (.cells #[ptr t] 33 (0, 0))) (hgw : w0.heap[gw]? = some (.cells #[.int .i64 a] 3 (0, 0))) (hgj : w0.heap[gj]? = some (.cells #[.iface 35 J'] 27 (0, 0)))
    (hB : gt < B ∧ gw < B ∧ gj < B) (hn : gt ≠ t ∧ gw ≠ t ∧ gj ≠ t)
    (ih : ∀ (w : World) (v : Value) (xs : List Int), St t B w0 w v xs → xs.length + 2 * r.length + 1 ≤ 900 → Calls Try.prog 28 #[J'] w (RunPost t B w0 (xs ++ nest r)))
    (w : World) (v : Value) (xs : List Int) (h : St t B w0 w v xs) (hl : xs.length + 2 * r.length + 3 ≤ 900) : Calls Try.prog 12 #[ptr gt, ptr gw, ptr gj] w (RunPost t B w0 (xs ++ nest (a :: r))) := by
  have H := Aside0.mk h
  have HL0 := Aside0.mk hl
  have HL : Aside0 (xs.length ≤ 900) := ⟨by omega⟩
  have HIH := Aside0.mk ih
  have HF1 : Aside0 (∀ (w w1 : World) {v : Value} {xs : List Int}, St t B w0 w v xs → w.grownBy w1 v.ownBlock → w1.heap[gt]? = some (.cells #[ptr t] 33 (0, 0))) := ⟨fun w w1 v xs h hg => h.kept_grown hgt hB.1 hn.1 hg⟩
  have HF2 : Aside0 (∀ (w w1 : World) {v : Value} {xs : List Int}, St t B w0 w v xs → w.grownBy w1 v.ownBlock → w1.heap[gw]? = some (.cells #[.int .i64 a] 3 (0, 0))) := ⟨fun w w1 v xs h hg => h.kept_grown hgw hB.2.1 hn.2.1 hg⟩
  have HK1 : Aside0 (∀ (w : World) {v : Value} {xs : List Int}, St t B w0 w v xs → w.heap[gt]? = some (.cells #[ptr t] 33 (0, 0))) := ⟨fun w v xs h => h.kept hgt hB.1 hn.1⟩
  have HK2 : Aside0 (∀ (w : World) {v : Value} {xs : List Int}, St t B w0 w v xs → w.heap[gw]? = some (.cells #[.int .i64 a] 3 (0, 0))) := ⟨fun w v xs h => h.kept hgw hB.2.1 hn.2.1⟩
  have HK3 : Aside0 (∀ (w : World) {v : Value} {xs : List Int}, St t B w0 w v xs → w.heap[gj]? = some (.cells #[.iface 35 J'] 27 (0, 0))) := ⟨fun w v xs h => h.kept hgj hB.2.2 hn.2.2⟩
  have HGT := Aside0.mk (HK1.out w h)
  have HGW := Aside0.mk (HK2.out w h)
  obtain ⟨ys, hys⟩ : ∃ ys : List Int, ys = xs ++ [a] := ⟨_, rfl⟩
  obtain ⟨zs, hzs⟩ : ∃ zs : List Int, zs = ys ++ nest r := ⟨_, rfl⟩
  obtain ⟨us, hus⟩ : ∃ us : List Int, us = zs ++ [wrap64 (-a)] := ⟨_, rfl⟩
  have hend : xs ++ nest (a :: r) = us := by rw [hus, hzs, hys]; simp [nest]
  rw [hend]
  have hzl : zs.length ≤ 900 := by rw [hzs, hys]; simp [nest_length]; omega
  have hyl : ys.length + 2 * r.length + 1 ≤ 900 := by rw [hys]; simp; omega
  have HIH2 : Aside0 (∀ (w : World) (v : Value), St t B w0 w v ys → Calls Try.prog 28 #[J'] w (RunPost t B w0 zs)) := ⟨fun w v h => by rw [hzs]; exact ih w v ys h hyl⟩
  have HY := Aside0.mk hys
  have HU := Aside0.mk hus
  have HZ := Aside0.mk hzl
  clear hys hzs hus hend hzl hyl ih HIH h hl hgt hgw hgj hB hn
  have ct : True := trivial
  show Calls Try.prog 12 #[.pointer (some ⟨gt, 0, none⟩), .pointer (some ⟨gw, 0, none⟩), .pointer (some ⟨gj, 0, none⟩)] w (RunPost t B w0 us)
  go_enter Try.func12, Try.ntmps12
  go_wp2_with fail
  refine start_ (n := 9) (S := fun w' => w'.heap[gt]? = some (.cells #[ptr t] 33 (0, 0)) ∧ w'.heap[gw]? = some (.cells #[.int .i64 a] 3 (0, 0)) ∧ w'.heap[t]? = some (.cells #[v] 22 (0, 0))) (ds := [8]) #[false, false, false, false, false, false, false, false, false] (by kernel_rfl) rfl rfl (⟨HGT.out, HGW.out, H.out.tr⟩) (fun hHeld => ?_)
  have H2 := Aside0.mk H.out.drew
  clear H HGT HGW ct
  have H := H2
  clear H2
  generalize hwd : World.drew _ = wdr at H hHeld ⊢
  clear hwd
  refine take_ (i := 0) (N := (some 3)) (v := ?_) (a' := ?_) #[true, false, false, false, false, false, false, false, false] rfl rfl (by kernel_rfl) (fun _ _ _ h => h) (Or.inl ⟨by rfl, ?_⟩) hHeld ?_ ?_
  rotate_left
  · intro w' hS
    have cc := (blk_cell hS.1 0).trans (show _ = some (Value.pointer (some ⟨t, 0, none⟩)) from rfl); go_simp; with_reducible rfl
  rotate_left
  · simp only [Act.put, List.setIfInBounds_toArray, List.set_cons_zero, List.set_cons_succ, i64_w, i32_w]; rfl
  refine take_ (i := 1) (N := (some 4)) (v := ?_) (a' := ?_) #[true, true, false, false, false, false, false, false, false] rfl rfl (by kernel_rfl) (fun _ _ _ h => h) (Or.inl ⟨by rfl, ?_⟩) hHeld ?_ ?_
  rotate_left
  · intro w' hS
    have cc := (blk_cell hS.1 0).trans (show _ = some (Value.pointer (some ⟨t, 0, none⟩)) from rfl); go_simp; with_reducible rfl
  rotate_left
  · simp only [Act.put, List.setIfInBounds_toArray, List.set_cons_zero, List.set_cons_succ, i64_w, i32_w]; rfl
  refine pure_ (i := 2) (N := (some 5)) (v := ?_) (a' := ?_) #[true, true, true, false, false, false, false, false, false] rfl rfl (by kernel_rfl) (fun _ _ _ h => h) (Or.inl ⟨by rfl, ?_⟩) ?_ ?_
  rotate_left
  · intro w'; go_simp; with_reducible rfl
  rotate_left
  · simp only [Act.put, List.setIfInBounds_toArray, List.set_cons_zero, List.set_cons_succ, i64_w, i32_w]; rfl
  refine take_ (i := 3) (N := (some 6)) (v := ?_) (a' := ?_) #[true, true, true, true, false, false, false, false, false] rfl rfl (by kernel_rfl) (fun _ _ _ h => h) (Or.inl ⟨by rfl, ?_⟩) hHeld ?_ ?_
  rotate_left
  · intro w' hS
    have cc := (blk_cell hS.2.2 0).trans (show _ = some v from rfl); go_simp; with_reducible rfl
  rotate_left
  · simp only [Act.put, List.setIfInBounds_toArray, List.set_cons_zero, List.set_cons_succ, i64_w, i32_w]; rfl
  refine take_ (i := 4) (N := (some 7)) (v := ?_) (a' := ?_) #[true, true, true, true, true, false, false, false, false] rfl rfl (by kernel_rfl) (fun _ _ _ h => h) (Or.inl ⟨by rfl, ?_⟩) hHeld ?_ ?_
  rotate_left
  · intro w' hS
    have cc := (blk_cell hS.2.1 0).trans (show _ = some (Value.int .i64 a) from rfl); go_simp; with_reducible rfl
  rotate_left
  · simp only [Act.put, List.setIfInBounds_toArray, List.set_cons_zero, List.set_cons_succ, i64_w, i32_w]; rfl
  refine one_ (i := 5) (N := (some 8)) #[true, true, true, true, true, true, false, false, false] rfl rfl (by kernel_rfl) (by decide) (fun K hK => ?_)
  refine value_ (by rfl) rfl (build1 _ _ (.tmp 7) rfl (a) rfl _) ?_
  have hh1 := blk_alloc hHeld.1 (.cells #[.int .i64 (a)] 3)
  have hh2 := blk_alloc hHeld.2.1 (.cells #[.int .i64 (a)] 3)
  have hh3 := blk_alloc hHeld.2.2 (.cells #[.int .i64 (a)] 3)
  clear hHeld
  refine hK.out _ _ ⟨hh1, hh2, hh3⟩ (fun hHeld => ?_)
  clear hh1 hh2 hh3 hHeld
  clear hK K; refine norm_ (a' := ?_) ?_ ?_; rotate_left
  · show Act.put _ (some 8) _ = _; simp only [Act.put, List.setIfInBounds_toArray, List.set_cons_zero, List.set_cons_succ, i64_w, i32_w]; rfl
  refine one_ (i := 6) (N := (some 9)) #[true, true, true, true, true, true, true, false, false] rfl rfl (by kernel_rfl) (by decide) (fun K hK => ?_)
  refine step_append_cells (w0 := wdr) (W := wdr) B (by rfl) (.tmp 6) (.tmp 8) 22 3 (.int .i64 0) 1 8 rfl Try.underlying22 info3 rfl (by decide) (by decide) v xs.length (nums .i64 xs) [.int .i64 (a)] rfl rfl rfl (by simp [Value.oneCell']) H.out.own (Below.refl _ _) H.out.big (by have := HL.out; omega) ?_
  intro v1 w1 ho1 hb1 hg1 hat1
  replace ho1 : w1.ownsRow B 3 1 v1 (xs ++ [a]).length (nums .i64 (xs ++ [a])) := by simpa [nums] using ho1
  rw [← HY.out] at ho1
  obtain ⟨A1, c1, rfl⟩ := own_slice ho1
  have HM := Aside0.mk (H.out.mid hg1)
  have HS := Aside0.mk (H.out.step hg1 ho1)
  refine hK.out _ _ ⟨HF1.out wdr w1 H.out hg1, HF2.out wdr w1 H.out hg1, H.out.mid hg1⟩ (fun hHeld => ?_)
  clear hHeld ho1 hb1 hg1 hat1 H
  clear hK K; refine norm_ (a' := ?_) ?_ ?_; rotate_left
  · show Act.put _ (some 9) _ = _; simp only [Act.put, List.setIfInBounds_toArray, List.set_cons_zero, List.set_cons_succ, i64_w, i32_w]; rfl
  refine pure_ (i := 7) (N := (some 10)) (v := ?_) (a' := ?_) #[true, true, true, true, true, true, true, true, false] rfl rfl (by kernel_rfl) (fun _ _ _ h => h) (Or.inl ⟨by rfl, ?_⟩) ?_ ?_
  rotate_left
  · intro w'; go_simp; with_reducible rfl
  rotate_left
  · simp only [Act.put, List.setIfInBounds_toArray, List.set_cons_zero, List.set_cons_succ, i64_w, i32_w]; rfl
  refine last_ (i := 8) (N := none) #[true, true, true, true, true, true, true, true, true] rfl rfl (by kernel_rfl) (by decide) (fun K hK => ?_)
  refine skip_ (by rfl) rfl (store1 _ _ (.tmp 10) (.tmp 9) rfl t _ _ _ _ rfl rfl HM.out) ?_
  refine hK.out _ _ ?_
  clear hK K
  refine done_ (by kernel_rfl) ?_
  have H := HS
  clear HS HM HY
  have cj := (blk_cell (HK3.out _ H.out) 0).trans (show _ = some (Value.iface 35 J') from rfl)
  have hm := method_run J'
  go_wp2_with (go_at_call 28; (refine (HIH2.out _ _ H.out).mono ?_); rintro e w5 ⟨rfl, v2, h2⟩; have H3 := Aside0.mk h2; clear H h2; have H := H3; clear H3 cj)
  clear hm
  have HY := HU
  have HL2 := HZ
  clear HL
  have HL := HL2
  clear HL2
  have HGT := Aside0.mk (HK1.out _ H.out)
  have HGW := Aside0.mk (HK2.out _ H.out)
  have ct : True := trivial
  refine start_ (n := 10) (S := fun w' => w'.heap[gt]? = some (.cells #[ptr t] 33 (0, 0)) ∧ w'.heap[gw]? = some (.cells #[.int .i64 a] 3 (0, 0)) ∧ w'.heap[t]? = some (.cells #[v2] 22 (0, 0))) (ds := [9]) #[false, false, false, false, false, false, false, false, false, false] (by kernel_rfl) rfl rfl (⟨HGT.out, HGW.out, H.out.tr⟩) (fun hHeld => ?_)
  have H2 := Aside0.mk H.out.drew
  clear H HGT HGW ct
  have H := H2
  clear H2
  generalize hwd : World.drew _ = wdr at H hHeld ⊢
  clear hwd
  refine take_ (i := 0) (N := (some 13)) (v := ?_) (a' := ?_) #[true, false, false, false, false, false, false, false, false, false] rfl rfl (by kernel_rfl) (fun _ _ _ h => h) (Or.inl ⟨by rfl, ?_⟩) hHeld ?_ ?_
  rotate_left
  · intro w' hS
    have cc := (blk_cell hS.1 0).trans (show _ = some (Value.pointer (some ⟨t, 0, none⟩)) from rfl); go_simp; with_reducible rfl
  rotate_left
  · simp only [Act.put, List.setIfInBounds_toArray, List.set_cons_zero, List.set_cons_succ, i64_w, i32_w]; rfl
  refine take_ (i := 1) (N := (some 14)) (v := ?_) (a' := ?_) #[true, true, false, false, false, false, false, false, false, false] rfl rfl (by kernel_rfl) (fun _ _ _ h => h) (Or.inl ⟨by rfl, ?_⟩) hHeld ?_ ?_
  rotate_left
  · intro w' hS
    have cc := (blk_cell hS.1 0).trans (show _ = some (Value.pointer (some ⟨t, 0, none⟩)) from rfl); go_simp; with_reducible rfl
  rotate_left
  · simp only [Act.put, List.setIfInBounds_toArray, List.set_cons_zero, List.set_cons_succ, i64_w, i32_w]; rfl
  refine pure_ (i := 2) (N := (some 15)) (v := ?_) (a' := ?_) #[true, true, true, false, false, false, false, false, false, false] rfl rfl (by kernel_rfl) (fun _ _ _ h => h) (Or.inl ⟨by rfl, ?_⟩) ?_ ?_
  rotate_left
  · intro w'; go_simp; with_reducible rfl
  rotate_left
  · simp only [Act.put, List.setIfInBounds_toArray, List.set_cons_zero, List.set_cons_succ, i64_w, i32_w]; rfl
  refine take_ (i := 3) (N := (some 16)) (v := ?_) (a' := ?_) #[true, true, true, true, false, false, false, false, false, false] rfl rfl (by kernel_rfl) (fun _ _ _ h => h) (Or.inl ⟨by rfl, ?_⟩) hHeld ?_ ?_
  rotate_left
  · intro w' hS
    have cc := (blk_cell hS.2.2 0).trans (show _ = some v2 from rfl); go_simp; with_reducible rfl
  rotate_left
  · simp only [Act.put, List.setIfInBounds_toArray, List.set_cons_zero, List.set_cons_succ, i64_w, i32_w]; rfl
  refine take_ (i := 4) (N := (some 17)) (v := ?_) (a' := ?_) #[true, true, true, true, true, false, false, false, false, false] rfl rfl (by kernel_rfl) (fun _ _ _ h => h) (Or.inl ⟨by rfl, ?_⟩) hHeld ?_ ?_
  rotate_left
  · intro w' hS
    have cc := (blk_cell hS.2.1 0).trans (show _ = some (Value.int .i64 a) from rfl); go_simp; with_reducible rfl
  rotate_left
  · simp only [Act.put, List.setIfInBounds_toArray, List.set_cons_zero, List.set_cons_succ, i64_w, i32_w]; rfl
  refine pure_ (i := 5) (N := (some 18)) (v := ?_) (a' := ?_) #[true, true, true, true, true, true, false, false, false, false] rfl rfl (by kernel_rfl) (fun _ _ _ h => h) (Or.inl ⟨by rfl, ?_⟩) ?_ ?_
  rotate_left
  · intro w'; go_simp; with_reducible rfl
  rotate_left
  · simp only [Act.put, List.setIfInBounds_toArray, List.set_cons_zero, List.set_cons_succ, i64_w, i32_w]; rfl
  refine one_ (i := 6) (N := (some 19)) #[true, true, true, true, true, true, true, false, false, false] rfl rfl (by kernel_rfl) (by decide) (fun K hK => ?_)
  refine value_ (by rfl) rfl (build1 _ _ (.tmp 18) rfl (wrap64 (-a)) rfl _) ?_
  have hh1 := blk_alloc hHeld.1 (.cells #[.int .i64 (wrap64 (-a))] 3)
  have hh2 := blk_alloc hHeld.2.1 (.cells #[.int .i64 (wrap64 (-a))] 3)
  have hh3 := blk_alloc hHeld.2.2 (.cells #[.int .i64 (wrap64 (-a))] 3)
  clear hHeld
  refine hK.out _ _ ⟨hh1, hh2, hh3⟩ (fun hHeld => ?_)
  clear hh1 hh2 hh3 hHeld
  clear hK K; refine norm_ (a' := ?_) ?_ ?_; rotate_left
  · show Act.put _ (some 19) _ = _; simp only [Act.put, List.setIfInBounds_toArray, List.set_cons_zero, List.set_cons_succ, i64_w, i32_w]; rfl
  refine one_ (i := 7) (N := (some 20)) #[true, true, true, true, true, true, true, true, false, false] rfl rfl (by kernel_rfl) (by decide) (fun K hK => ?_)
  refine step_append_cells (w0 := wdr) (W := wdr) B (by rfl) (.tmp 16) (.tmp 19) 22 3 (.int .i64 0) 1 8 rfl Try.underlying22 info3 rfl (by decide) (by decide) v2 zs.length (nums .i64 zs) [.int .i64 (wrap64 (-a))] rfl rfl rfl (by simp [Value.oneCell']) H.out.own (Below.refl _ _) H.out.big (by have := HL.out; omega) ?_
  intro v1 w1 ho1 hb1 hg1 hat1
  replace ho1 : w1.ownsRow B 3 1 v1 (zs ++ [wrap64 (-a)]).length (nums .i64 (zs ++ [wrap64 (-a)])) := by simpa [nums] using ho1
  rw [← HY.out] at ho1
  obtain ⟨A1, c1, rfl⟩ := own_slice ho1
  have HM := Aside0.mk (H.out.mid hg1)
  have HS := Aside0.mk (H.out.step hg1 ho1)
  refine hK.out _ _ ⟨HF1.out wdr w1 H.out hg1, HF2.out wdr w1 H.out hg1, H.out.mid hg1⟩ (fun hHeld => ?_)
  clear hHeld ho1 hb1 hg1 hat1 H
  clear hK K; refine norm_ (a' := ?_) ?_ ?_; rotate_left
  · show Act.put _ (some 20) _ = _; simp only [Act.put, List.setIfInBounds_toArray, List.set_cons_zero, List.set_cons_succ, i64_w, i32_w]; rfl
  refine pure_ (i := 8) (N := (some 21)) (v := ?_) (a' := ?_) #[true, true, true, true, true, true, true, true, true, false] rfl rfl (by kernel_rfl) (fun _ _ _ h => h) (Or.inl ⟨by rfl, ?_⟩) ?_ ?_
  rotate_left
  · intro w'; go_simp; with_reducible rfl
  rotate_left
  · simp only [Act.put, List.setIfInBounds_toArray, List.set_cons_zero, List.set_cons_succ, i64_w, i32_w]; rfl
  refine last_ (i := 9) (N := none) #[true, true, true, true, true, true, true, true, true, true] rfl rfl (by kernel_rfl) (by decide) (fun K hK => ?_)
  refine skip_ (by rfl) rfl (store1 _ _ (.tmp 21) (.tmp 20) rfl t _ _ _ _ rfl rfl HM.out) ?_
  refine hK.out _ _ ?_
  clear hK K
  refine done_ (by kernel_rfl) ?_
  go_end0
  exact ⟨rfl, _, HS.out⟩
theorem run_any (t B : Nat) (w0 : World) (u0 : Value) (ht0 : w0.heap[t]? = some (.cells #[u0] 22 (0, 0))) : ∀ (l : List Int) (J : Value), Job t B w0 l J → ∀ (w : World) (v : Value) (xs : List Int), St t B w0 w v xs → xs.length + 2 * l.length + 1 ≤ 900 → Calls Try.prog 28 #[J] w (RunPost t B w0 (xs ++ nest l))
  | [], J, hJ, w, v, xs, h, hl => by
    cases hJ
    have H := Aside0.mk h
    have HL : Aside0 (xs.length ≤ 1000) := ⟨by simp at hl; omega⟩
    clear h hl
    go_enter Try.func28, Try.ntmps28
    go_wp2_with (go_at_call 10; refine (job_any t B w0 _ v xs H.out HL.out).mono ?_; rintro e w' ⟨rfl, v', h'⟩; have H2 := Aside0.mk h'; clear h')
    go_end0
    exact ⟨rfl, _, H2.out⟩
  | a :: r, J, hJ, w, v, xs, h, hl => by
    obtain ⟨gt, gw, gj, J', rfl, hB, h1, h2, h3, hJ'⟩ := hJ
    have ih := run_any t B w0 u0 ht0 r J' hJ'
    have C := Aside0.mk (note_any t B w0 gt gw gj a r J' h1 h2 h3 hB ⟨blk_ne h1 ht0 (by decide), blk_ne h2 ht0 (by decide), blk_ne h3 ht0 (by decide)⟩ ih w v xs h (by simp at hl; omega))
    clear ih h hl h1 h2 h3 hJ' hB
    show Calls Try.prog 28 #[.func (.func 12) #[] #[.pointer (some ⟨gt, 0, none⟩), .pointer (some ⟨gw, 0, none⟩), .pointer (some ⟨gj, 0, none⟩)]] w (RunPost t B w0 (xs ++ nest (a :: r)))
    generalize xs ++ nest (a :: r) = us at C ⊢
    go_enter Try.func28, Try.ntmps28
    go_wp2_with (go_at_call 12; refine C.out.mono ?_; rintro e w' ⟨rfl, v', h'⟩; have H2 := Aside0.mk h'; clear h')
    go_end0
    exact ⟨rfl, _, H2.out⟩
end Go.Proofs.Ytlnidaidpdbaiaa.Ch
