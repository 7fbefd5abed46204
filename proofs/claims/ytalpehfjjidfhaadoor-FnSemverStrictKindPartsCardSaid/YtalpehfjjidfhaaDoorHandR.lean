/- What is proved: by hand, the thin package's strict reading of a version's text. -/
import Derived.Test.YtalpehfjjidfhaaDoorHandP
namespace Go.Proofs.YtalpehfjjidfhaaDoor.MS
open Go Go.RowKit Sv Hand
open Go.Proofs.YtalpehfjjidfhaaDoorW.PrintWords Go.Proofs.YtalpehfjjidfhaaDoorW.PrintLast Go.Proofs.YtalpehfjjidfhaaDoorW.PrintMore
open Go.Proofs.YtalpehfjjidfhaaDoor.MA (tl identB identL digsL okPre)
set_option linter.unusedVariables false
set_option linter.unusedSimpArgs false
theorem Strict_any (E : Nat → Addr) (o : ByteArray) (w : World) (hE : Ge E [0, 1, 2, 3, 4, 5, 6, 9, 10] w) (hm : o.size ≤ maxLen) : Calls Tryd.prog 89 #[.string o] w (StrictPost E w o (strictR (tl o))) := by
  have hsz : o.size = (tl o).length := size_data o
  unfold strictR
  by_cases h0 : tl o = []
  · rw [if_pos h0]
    exact strict_empty E o w (hE.sub (by simp)) (by rw [hsz, h0]; rfl)
  · have h0' : o.size ≠ 0 := by rw [hsz]; exact fun h => h0 (List.length_eq_zero_iff.1 h)
    rw [if_neg h0]
    by_cases h1 : 256 < (tl o).length
    · rw [if_pos h1]
      exact strict_long E o w (hE.sub (by simp)) hm (by omega)
    · rw [if_neg h1]
      cases hc : cut 46 (tl o) with
      | none => exact strict_few E o w (hE.sub (by simp)) h0' (by omega) (by rw [hc]; intro p r h; cases h)
      | some pr =>
        obtain ⟨p, r⟩ := pr
        dsimp only
        cases hc2 : cut 46 r with
        | none => exact strict_few E o w (hE.sub (by simp)) h0' (by omega) (by rw [hc]; intro p' r' h; injection h with h; injection h with h1 h2; subst h2; exact hc2)
        | some qs =>
          obtain ⟨q, s⟩ := qs
          exact strict_three E o w (hE.sub (by simp)) h0' (by omega) hc hc2
theorem Metadata_any (M m t : Int) (u v o : ByteArray) (w : World) : Calls Tryd.prog 153 #[.agg #[.int .u64 M, .int .u64 m, .int .u64 t, .string u, .string v, .string o]] w fun e w' => e = .returned (.string v) ∧ Below w.heap.size w w' := by
  go_enter Tryd.func153, Tryd.ntmps153
  go_wp2
  go_ret
  exact ⟨rfl, (Below.refl _ _).alloc (Nat.le_refl _) _⟩
theorem VO.drew {w : World} {p : Nat} {M m t : Int} {u v o : ByteArray} (h : VO w p M m t u v o) : VO w.drew p M m t u v o := h.below (below_drew (Below.refl _ w))
theorem below_set5 {W w : World} {R B : Nat} (h : Below B W w) (hR : B ≤ R) (M m t : Int) (u v : ByteArray) : Below B W (w.setCells R 0 [.int .u64 M, .int .u64 m, .int .u64 t, .string u, .string v]) := by
  simp only [World.setCells]
  exact ((((h.setCell hR _).setCell hR _).setCell hR _).setCell hR _).setCell hR _
theorem blk_set5 {w : World} {R : Nat} {cur : Array Value} (h : w.heap[R]? = some (.cells cur 29 (0, 0))) (M m t : Int) (u v : ByteArray) (hc : cur.size = 5 := by rfl) : (w.setCells R 0 [.int .u64 M, .int .u64 m, .int .u64 t, .string u, .string v]).heap[R]? = some (.cells #[.int .u64 M, .int .u64 m, .int .u64 t, .string u, .string v] 29 (0, 0)) := by
  obtain ⟨cur', h1, h2, h3⟩ := setCells_row [.int .u64 M, .int .u64 m, .int .u64 t, .string u, .string v] 0 w cur h (by rw [hc]; exact Nat.le_refl 5)
  rw [h1]
  have h4 : cur.toList.drop 5 = [] := List.drop_of_length_le (by rw [Array.length_toList]; omega)
  have h5 : cur'.toList = [.int .u64 M, .int .u64 m, .int .u64 t, .string u, .string v] := by rw [h3]; simp [h4]
  have h6 : cur' = #[.int .u64 M, .int .u64 m, .int .u64 t, .string u, .string v] := by
    apply Array.toList_inj.1
    exact h5
  rw [h6]
set_option maxHeartbeats 4000000 in
set_option maxRecDepth 100000 in
theorem plain_any (M m t : Int) (u v o : ByteArray) (N : Nat) (w : World) (hV : VO w N M m t u v o) : Calls Tryd.prog 108 #[.pointer (some ⟨N, 0, none⟩)] w fun e w' => e = .returned (.agg #[.int .u64 M, .int .u64 m, .int .u64 t, .string u, .string v]) ∧ Below w.heap.size w w' := by
  have HV := Aside0.mk (VO.drew (hV.below ((Below.refl _ w).alloc (Nat.le_refl _) (.cells #[.int .u64 0, .int .u64 0, .int .u64 0, .string ⟨#[]⟩, .string ⟨#[]⟩] 29))))
  have HR : Aside0 ((w.alloc (.cells #[.int .u64 0, .int .u64 0, .int .u64 0, .string ⟨#[]⟩, .string ⟨#[]⟩] 29)).drew.heap[w.heap.size]? = some (.cells #[.int .u64 0, .int .u64 0, .int .u64 0, .string ⟨#[]⟩, .string ⟨#[]⟩] 29 (0, 0))) := ⟨by show (w.heap.push _)[w.heap.size]? = _; rw [Array.getElem?_push, if_pos rfl]⟩
  have HB := Aside0.mk (below_drew ((Below.refl _ w).alloc (Nat.le_refl _) (.cells #[.int .u64 0, .int .u64 0, .int .u64 0, .string ⟨#[]⟩, .string ⟨#[]⟩] 29)))
  have hone : ∀ q ∈ [Value.int .u64 M, Value.int .u64 m, Value.int .u64 t, Value.string u, Value.string v], q.oneCell' = true := by
    intro q hq
    simp only [List.mem_cons, List.not_mem_nil, or_false] at hq
    rcases hq with rfl | rfl | rfl | rfl | rfl <;> rfl
  clear hV
  go_enter Tryd.func108, Tryd.ntmps108
  go_wp2_with fail
  refine start_ (n := 22) (S := fun w' => w'.cell? ⟨N, 0, none⟩ = some (.int .u64 M) ∧ w'.cell? ⟨N, 1, none⟩ = some (.int .u64 m) ∧ w'.cell? ⟨N, 2, none⟩ = some (.int .u64 t) ∧ w'.cell? ⟨N, 3, none⟩ = some (.string u) ∧ w'.cell? ⟨N, 4, none⟩ = some (.string v) ∧ w'.cell? ⟨N, 5, none⟩ = some (.string o)) (ds := [21]) #[false, false, false, false, false, false, false, false, false, false, false, false, false, false, false, false, false, false, false, false, false, false] (by kernel_rfl) rfl rfl HV.out.cells (fun hHeld => ?_)
  refine pure_ (i := 0) (N := some 3) (v := ?_) (a' := ?_) #[true, false, false, false, false, false, false, false, false, false, false, false, false, false, false, false, false, false, false, false, false, false] rfl rfl (by kernel_rfl) (fun _ _ _ h => h) (Or.inl ⟨by rfl, ?_⟩) ?_ ?_
  rotate_left
  · intro w'
    go_simp
    with_reducible rfl
  rotate_left
  · simp only [Act.put, List.setIfInBounds_toArray, List.set_cons_zero, List.set_cons_succ, i64_w, i32_w]
    rfl
  refine pure_ (i := 4) (N := some 7) (v := ?_) (a' := ?_) #[true, false, false, false, true, false, false, false, false, false, false, false, false, false, false, false, false, false, false, false, false, false] rfl rfl (by kernel_rfl) (fun _ _ _ h => h) (Or.inl ⟨by rfl, ?_⟩) ?_ ?_
  rotate_left
  · intro w'
    go_simp
    with_reducible rfl
  rotate_left
  · simp only [Act.put, List.setIfInBounds_toArray, List.set_cons_zero, List.set_cons_succ, i64_w, i32_w]
    rfl
  refine pure_ (i := 8) (N := some 11) (v := ?_) (a' := ?_) #[true, false, false, false, true, false, false, false, true, false, false, false, false, false, false, false, false, false, false, false, false, false] rfl rfl (by kernel_rfl) (fun _ _ _ h => h) (Or.inl ⟨by rfl, ?_⟩) ?_ ?_
  rotate_left
  · intro w'
    go_simp
    with_reducible rfl
  rotate_left
  · simp only [Act.put, List.setIfInBounds_toArray, List.set_cons_zero, List.set_cons_succ, i64_w, i32_w]
    rfl
  refine pure_ (i := 12) (N := some 15) (v := ?_) (a' := ?_) #[true, false, false, false, true, false, false, false, true, false, false, false, true, false, false, false, false, false, false, false, false, false] rfl rfl (by kernel_rfl) (fun _ _ _ h => h) (Or.inl ⟨by rfl, ?_⟩) ?_ ?_
  rotate_left
  · intro w'
    go_simp
    with_reducible rfl
  rotate_left
  · simp only [Act.put, List.setIfInBounds_toArray, List.set_cons_zero, List.set_cons_succ, i64_w, i32_w]
    rfl
  refine pure_ (i := 16) (N := some 19) (v := ?_) (a' := ?_) #[true, false, false, false, true, false, false, false, true, false, false, false, true, false, false, false, true, false, false, false, false, false] rfl rfl (by kernel_rfl) (fun _ _ _ h => h) (Or.inl ⟨by rfl, ?_⟩) ?_ ?_
  rotate_left
  · intro w'
    go_simp
    with_reducible rfl
  rotate_left
  · simp only [Act.put, List.setIfInBounds_toArray, List.set_cons_zero, List.set_cons_succ, i64_w, i32_w]
    rfl
  refine pure_ (i := 1) (N := some 4) (v := ?_) (a' := ?_) #[true, true, false, false, true, false, false, false, true, false, false, false, true, false, false, false, true, false, false, false, false, false] rfl rfl (by kernel_rfl) (fun _ _ _ h => h) (Or.inl ⟨by rfl, ?_⟩) ?_ ?_
  rotate_left
  · intro w'
    go_simp
    with_reducible rfl
  rotate_left
  · simp only [Act.put, List.setIfInBounds_toArray, List.set_cons_zero, List.set_cons_succ, i64_w, i32_w]
    rfl
  refine pure_ (i := 5) (N := some 8) (v := ?_) (a' := ?_) #[true, true, false, false, true, true, false, false, true, false, false, false, true, false, false, false, true, false, false, false, false, false] rfl rfl (by kernel_rfl) (fun _ _ _ h => h) (Or.inl ⟨by rfl, ?_⟩) ?_ ?_
  rotate_left
  · intro w'
    go_simp
    with_reducible rfl
  rotate_left
  · simp only [Act.put, List.setIfInBounds_toArray, List.set_cons_zero, List.set_cons_succ, i64_w, i32_w]
    rfl
  refine pure_ (i := 9) (N := some 12) (v := ?_) (a' := ?_) #[true, true, false, false, true, true, false, false, true, true, false, false, true, false, false, false, true, false, false, false, false, false] rfl rfl (by kernel_rfl) (fun _ _ _ h => h) (Or.inl ⟨by rfl, ?_⟩) ?_ ?_
  rotate_left
  · intro w'
    go_simp
    with_reducible rfl
  rotate_left
  · simp only [Act.put, List.setIfInBounds_toArray, List.set_cons_zero, List.set_cons_succ, i64_w, i32_w]
    rfl
  refine pure_ (i := 13) (N := some 16) (v := ?_) (a' := ?_) #[true, true, false, false, true, true, false, false, true, true, false, false, true, true, false, false, true, false, false, false, false, false] rfl rfl (by kernel_rfl) (fun _ _ _ h => h) (Or.inl ⟨by rfl, ?_⟩) ?_ ?_
  rotate_left
  · intro w'
    go_simp
    with_reducible rfl
  rotate_left
  · simp only [Act.put, List.setIfInBounds_toArray, List.set_cons_zero, List.set_cons_succ, i64_w, i32_w]
    rfl
  refine pure_ (i := 17) (N := some 20) (v := ?_) (a' := ?_) #[true, true, false, false, true, true, false, false, true, true, false, false, true, true, false, false, true, true, false, false, false, false] rfl rfl (by kernel_rfl) (fun _ _ _ h => h) (Or.inl ⟨by rfl, ?_⟩) ?_ ?_
  rotate_left
  · intro w'
    go_simp
    with_reducible rfl
  rotate_left
  · simp only [Act.put, List.setIfInBounds_toArray, List.set_cons_zero, List.set_cons_succ, i64_w, i32_w]
    rfl
  refine take_ (i := 2) (N := some 5) (v := ?_) (a' := ?_) #[true, true, true, false, true, true, false, false, true, true, false, false, true, true, false, false, true, true, false, false, false, false] rfl rfl (by kernel_rfl) (fun _ _ _ h => h) (Or.inl ⟨by rfl, ?_⟩) hHeld ?_ ?_
  rotate_left
  · rintro w' ⟨s0, s1, s2, s3, s4, s5⟩
    go_simp
    with_reducible rfl
  rotate_left
  · simp only [Act.put, List.setIfInBounds_toArray, List.set_cons_zero, List.set_cons_succ, i64_w, i32_w]
    rfl
  refine take_ (i := 6) (N := some 9) (v := ?_) (a' := ?_) #[true, true, true, false, true, true, true, false, true, true, false, false, true, true, false, false, true, true, false, false, false, false] rfl rfl (by kernel_rfl) (fun _ _ _ h => h) (Or.inl ⟨by rfl, ?_⟩) hHeld ?_ ?_
  rotate_left
  · rintro w' ⟨s0, s1, s2, s3, s4, s5⟩
    go_simp
    with_reducible rfl
  rotate_left
  · simp only [Act.put, List.setIfInBounds_toArray, List.set_cons_zero, List.set_cons_succ, i64_w, i32_w]
    rfl
  refine take_ (i := 10) (N := some 13) (v := ?_) (a' := ?_) #[true, true, true, false, true, true, true, false, true, true, true, false, true, true, false, false, true, true, false, false, false, false] rfl rfl (by kernel_rfl) (fun _ _ _ h => h) (Or.inl ⟨by rfl, ?_⟩) hHeld ?_ ?_
  rotate_left
  · rintro w' ⟨s0, s1, s2, s3, s4, s5⟩
    go_simp
    with_reducible rfl
  rotate_left
  · simp only [Act.put, List.setIfInBounds_toArray, List.set_cons_zero, List.set_cons_succ, i64_w, i32_w]
    rfl
  refine take_ (i := 14) (N := some 17) (v := ?_) (a' := ?_) #[true, true, true, false, true, true, true, false, true, true, true, false, true, true, true, false, true, true, false, false, false, false] rfl rfl (by kernel_rfl) (fun _ _ _ h => h) (Or.inl ⟨by rfl, ?_⟩) hHeld ?_ ?_
  rotate_left
  · rintro w' ⟨s0, s1, s2, s3, s4, s5⟩
    go_simp
    with_reducible rfl
  rotate_left
  · simp only [Act.put, List.setIfInBounds_toArray, List.set_cons_zero, List.set_cons_succ, i64_w, i32_w]
    rfl
  refine take_ (i := 18) (N := some 21) (v := ?_) (a' := ?_) #[true, true, true, false, true, true, true, false, true, true, true, false, true, true, true, false, true, true, true, false, false, false] rfl rfl (by kernel_rfl) (fun _ _ _ h => h) (Or.inl ⟨by rfl, ?_⟩) hHeld ?_ ?_
  rotate_left
  · rintro w' ⟨s0, s1, s2, s3, s4, s5⟩
    go_simp
    with_reducible rfl
  rotate_left
  · simp only [Act.put, List.setIfInBounds_toArray, List.set_cons_zero, List.set_cons_succ, i64_w, i32_w]
    rfl
  refine one_ (i := 3) (N := some 6) #[true, true, true, true, true, true, true, false, true, true, true, false, true, true, true, false, true, true, true, false, false, false] rfl rfl (by kernel_rfl) (by decide) (fun K hK => ?_)
  refine goes_ Tryd.func132 (by kernel_rfl) rfl #[.agg #[.int .u64 M, .int .u64 m, .int .u64 t, .string u, .string v, .string o]] (by rfl) rfl rfl (by (try simp only [List.map_toArray, List.map_cons, List.map_nil]); first | done | rfl) ?_
  refine (Major_any M m t u v o _).mono ?_
  rintro e w1 ⟨rfl, hb⟩
  refine ⟨_, rfl, ?_⟩
  have HV2 := Aside0.mk (HV.out.below hb)
  have HR2 := Aside0.mk (blk_below HR.out hb)
  have HB2 := Aside0.mk (HB.out.trans (hb.mono HB.out.size))
  clear HV HR HB hb
  have HV := HV2
  have HR := HR2
  have HB := HB2
  clear HV2 HR2 HB2
  refine hK.out _ _ HV.out.cells (fun hHeld => ?_)
  clear hK K
  refine norm_ (a' := ?_) ?_ ?_
  rotate_left
  · show Act.put _ (some 6) _ = _
    simp only [Act.put, List.setIfInBounds_toArray, List.set_cons_zero, List.set_cons_succ, i64_w, i32_w]
    rfl
  refine one_ (i := 7) (N := some 10) #[true, true, true, true, true, true, true, true, true, true, true, false, true, true, true, false, true, true, true, false, false, false] rfl rfl (by kernel_rfl) (by decide) (fun K hK => ?_)
  refine goes_ Tryd.func133 (by kernel_rfl) rfl #[.agg #[.int .u64 M, .int .u64 m, .int .u64 t, .string u, .string v, .string o]] (by rfl) rfl rfl (by (try simp only [List.map_toArray, List.map_cons, List.map_nil]); first | done | rfl) ?_
  refine (Minor_any M m t u v o _).mono ?_
  rintro e w2 ⟨rfl, hb⟩
  refine ⟨_, rfl, ?_⟩
  have HV2 := Aside0.mk (HV.out.below hb)
  have HR2 := Aside0.mk (blk_below HR.out hb)
  have HB2 := Aside0.mk (HB.out.trans (hb.mono HB.out.size))
  clear HV HR HB hb
  have HV := HV2
  have HR := HR2
  have HB := HB2
  clear HV2 HR2 HB2
  refine hK.out _ _ HV.out.cells (fun hHeld => ?_)
  clear hK K
  refine norm_ (a' := ?_) ?_ ?_
  rotate_left
  · show Act.put _ (some 10) _ = _
    simp only [Act.put, List.setIfInBounds_toArray, List.set_cons_zero, List.set_cons_succ, i64_w, i32_w]
    rfl
  refine one_ (i := 11) (N := some 14) #[true, true, true, true, true, true, true, true, true, true, true, true, true, true, true, false, true, true, true, false, false, false] rfl rfl (by kernel_rfl) (by decide) (fun K hK => ?_)
  refine goes_ Tryd.func134 (by kernel_rfl) rfl #[.agg #[.int .u64 M, .int .u64 m, .int .u64 t, .string u, .string v, .string o]] (by rfl) rfl rfl (by (try simp only [List.map_toArray, List.map_cons, List.map_nil]); first | done | rfl) ?_
  refine (Patch_any M m t u v o _).mono ?_
  rintro e w3 ⟨rfl, hb⟩
  refine ⟨_, rfl, ?_⟩
  have HV2 := Aside0.mk (HV.out.below hb)
  have HR2 := Aside0.mk (blk_below HR.out hb)
  have HB2 := Aside0.mk (HB.out.trans (hb.mono HB.out.size))
  clear HV HR HB hb
  have HV := HV2
  have HR := HR2
  have HB := HB2
  clear HV2 HR2 HB2
  refine hK.out _ _ HV.out.cells (fun hHeld => ?_)
  clear hK K
  refine norm_ (a' := ?_) ?_ ?_
  rotate_left
  · show Act.put _ (some 14) _ = _
    simp only [Act.put, List.setIfInBounds_toArray, List.set_cons_zero, List.set_cons_succ, i64_w, i32_w]
    rfl
  refine one_ (i := 15) (N := some 18) #[true, true, true, true, true, true, true, true, true, true, true, true, true, true, true, true, true, true, true, false, false, false] rfl rfl (by kernel_rfl) (by decide) (fun K hK => ?_)
  refine goes_ Tryd.func135 (by kernel_rfl) rfl #[.agg #[.int .u64 M, .int .u64 m, .int .u64 t, .string u, .string v, .string o]] (by rfl) rfl rfl (by (try simp only [List.map_toArray, List.map_cons, List.map_nil]); first | done | rfl) ?_
  refine (Prerelease_any M m t u v o _).mono ?_
  rintro e w4 ⟨rfl, hb⟩
  refine ⟨_, rfl, ?_⟩
  have HV2 := Aside0.mk (HV.out.below hb)
  have HR2 := Aside0.mk (blk_below HR.out hb)
  have HB2 := Aside0.mk (HB.out.trans (hb.mono HB.out.size))
  clear HV HR HB hb
  have HV := HV2
  have HR := HR2
  have HB := HB2
  clear HV2 HR2 HB2
  refine hK.out _ _ HV.out.cells (fun hHeld => ?_)
  clear hK K
  refine norm_ (a' := ?_) ?_ ?_
  rotate_left
  · show Act.put _ (some 18) _ = _
    simp only [Act.put, List.setIfInBounds_toArray, List.set_cons_zero, List.set_cons_succ, i64_w, i32_w]
    rfl
  refine one_ (i := 19) (N := some 22) #[true, true, true, true, true, true, true, true, true, true, true, true, true, true, true, true, true, true, true, true, false, false] rfl rfl (by kernel_rfl) (by decide) (fun K hK => ?_)
  refine goes_ Tryd.func153 (by kernel_rfl) rfl #[.agg #[.int .u64 M, .int .u64 m, .int .u64 t, .string u, .string v, .string o]] (by rfl) rfl rfl (by (try simp only [List.map_toArray, List.map_cons, List.map_nil]); first | done | rfl) ?_
  refine (Metadata_any M m t u v o _).mono ?_
  rintro e w5 ⟨rfl, hb⟩
  refine ⟨_, rfl, ?_⟩
  have HV2 := Aside0.mk (HV.out.below hb)
  have HR2 := Aside0.mk (blk_below HR.out hb)
  have HB2 := Aside0.mk (HB.out.trans (hb.mono HB.out.size))
  clear HV HR HB hb
  have HV := HV2
  have HR := HR2
  have HB := HB2
  clear HV2 HR2 HB2
  refine hK.out _ _ HV.out.cells (fun hHeld => ?_)
  clear hK K
  refine norm_ (a' := ?_) ?_ ?_
  rotate_left
  · show Act.put _ (some 22) _ = _
    simp only [Act.put, List.setIfInBounds_toArray, List.set_cons_zero, List.set_cons_succ, i64_w, i32_w]
    rfl
  refine pure_ (i := 20) (N := some 23) (v := ?_) (a' := ?_) #[true, true, true, true, true, true, true, true, true, true, true, true, true, true, true, true, true, true, true, true, true, false] rfl rfl (by kernel_rfl) (fun _ _ _ h => h) (Or.inl ⟨by rfl, ?_⟩) ?_ ?_
  rotate_left
  · intro w'
    go_simp
    with_reducible rfl
  rotate_left
  · simp only [Act.put, List.setIfInBounds_toArray, List.set_cons_zero, List.set_cons_succ, i64_w, i32_w]
    rfl
  refine last_ (i := 21) (N := none) #[true, true, true, true, true, true, true, true, true, true, true, true, true, true, true, true, true, true, true, true, true, true] rfl rfl (by kernel_rfl) (by decide) (fun K hK => ?_)
  have hrun := run_store_run (P := Tryd.prog) 29 (.agg #[.int .u64 M, .int .u64 m, .int .u64 t, .string u, .string v]) [.int .u64 M, .int .u64 m, .int .u64 t, .string u, .string v] (o := 0) HR.out rfl (by kernel_rfl) (Nat.le_refl 5) hone
  refine skip_ (w1 := ?_) (by rfl) rfl ?_ ?_
  rotate_left
  · show (do Instr.storeAt 29 (.pointer (some ⟨w.heap.size, 0, none⟩)) (.agg #[.int .u64 M, .int .u64 m, .int .u64 t, .string u, .string v]); pure Next.skip).run Tryd.prog w5 = _
    simp only [Sem.run_bind, hrun, Result.andThen_ok, Sem.run_pure]
    rfl
  refine hK.out _ _ ?_
  clear hK K
  refine done_ (by kernel_rfl) ?_
  clear hone
  generalize hRR : w.heap.size = R at HR HB ⊢
  have HS := Aside0.mk (blk_set5 HR.out M m t u v)
  have HB2 := Aside0.mk (below_set5 (R := R) HB.out (Nat.le_refl R) M m t u v)
  clear HR HB HV
  generalize World.setCells w5 R 0 _ = w6 at HS HB2 ⊢
  have c0 := (blk_cell HS.out 0).trans rfl
  have c1 := (blk_cell HS.out 1).trans rfl
  have c2 := (blk_cell HS.out 2).trans rfl
  have c3 := (blk_cell HS.out 3).trans rfl
  have c4 := (blk_cell HS.out 4).trans rfl
  replace hRR := Aside0.mk hRR
  go_wp2_with fail
  refine bodyPost_ret (v := .agg #[.int .u64 M, .int .u64 m, .int .u64 t, .string u, .string v]) (by simp [results, Tryd.results108, go_sem, c0, c1, c2, c3, c4]) rfl ⟨rfl, by rw [hRR.out]; exact HB2.out⟩
set_option maxHeartbeats 1000000 in
theorem read_er (M : Value) (E : Nat → Addr) (k : Nat) (hk : k ≠ 0) (v : Value) (w : World) (hv : EvK E w k v) : Calls Tryd.prog 88 #[M, v] w fun e w' => e = .returned (.tuple #[.agg #[.int .u64 0, .int .u64 0, .int .u64 0, .string ⟨#[]⟩, .string ⟨#[]⟩], .bool false]) ∧ Below w.heap.size w w' := by
  have hv2 : ∃ T p, v = .iface T p := by
    rcases hv with ⟨h1, h2⟩ | ⟨h1, N, a, b, h2, h3⟩
    · obtain ⟨j, rfl⟩ : ∃ j, k = j + 1 := ⟨k - 1, by omega⟩
      exact ⟨_, _, h2⟩
    · exact ⟨_, _, h2⟩
  obtain ⟨T, p, rfl⟩ := hv2
  clear hv
  go_enter Tryd.func88, Tryd.ntmps88
  go_wp2
  exact bodyPost_ret (v := .tuple #[.agg #[.int .u64 0, .int .u64 0, .int .u64 0, .string ⟨#[]⟩, .string ⟨#[]⟩], .bool false]) (by simp [results, Tryd.results88, go_sem]) rfl ⟨rfl, (Below.refl _ w).alloc (Nat.le_refl _) _⟩
set_option maxHeartbeats 1000000 in
theorem read_ok (M m t : Int) (u v o : ByteArray) (N : Nat) (w : World) (hV : VO w N M m t u v o) : Calls Tryd.prog 88 #[.pointer (some ⟨N, 0, none⟩), .nilIface] w fun e w' => e = .returned (.tuple #[.agg #[.int .u64 M, .int .u64 m, .int .u64 t, .string u, .string v], .bool true]) ∧ Below w.heap.size w w' := by
  have HV := Aside0.mk (hV.below ((Below.refl _ w).alloc (Nat.le_refl _) (.cells #[.int .u64 0, .int .u64 0, .int .u64 0, .string ⟨#[]⟩, .string ⟨#[]⟩] 29)))
  clear hV
  go_enter Tryd.func88, Tryd.ntmps88
  go_wp2_with (first | (go_at_call 108; (with_reducible refine (plain_any M m t u v o N _ HV.out).mono ?_); rintro e w1 ⟨rfl, hb⟩; obtain ⟨hc, hf⟩ := bcell hb; have hz := hb.size; have HB1 : Below w.heap.size w w1 := ((Below.refl _ w).alloc (Nat.le_refl _) _).trans (hb.mono (by simp))))
  exact bodyPost_ret (v := .tuple #[.agg #[.int .u64 M, .int .u64 m, .int .u64 t, .string u, .string v], .bool true]) (by simp [results, Tryd.results88, go_sem, hc, hz]) rfl ⟨rfl, by first | exact ((((HB1.setCell (Nat.le_refl _) _).setCell (Nat.le_refl _) _).setCell (Nat.le_refl _) _).setCell (Nat.le_refl _) _).setCell (Nat.le_refl _) _⟩
/-- What the thin package's StrictVersion answers. -/
def strictV : RR → Value
  | .ok P => .tuple #[.agg #[.int .u64 P.M, .int .u64 P.m, .int .u64 P.t, .string (B P.u), .string (B P.v)], .bool true]
  | .er _ => .tuple #[.agg #[.int .u64 0, .int .u64 0, .int .u64 0, .string ⟨#[]⟩, .string ⟨#[]⟩], .bool false]
def ErOk : RR → Prop
  | .er k => k ≠ 0
  | _ => True
set_option maxHeartbeats 2000000 in
theorem StrictVersion_any (E : Nat → Addr) (o : ByteArray) (w : World) (hE : Ge E [0, 1, 2, 3, 4, 5, 6, 9, 10] w) (hm : o.size ≤ maxLen) (hne : ErOk (strictR (tl o))) : Calls Tryd.prog 34 #[.string o] w fun e w' => e = .returned (strictV (strictR (tl o))) ∧ Below w.heap.size w w' := by
  have hE2 := hE.below ((Below.refl _ w).alloc (Nat.le_refl _) (.cells #[.int .u64 0, .int .u64 0, .int .u64 0, .string ⟨#[]⟩, .string ⟨#[]⟩] 29))
  have X := Aside0.mk (Strict_any E o _ hE2 hm)
  clear hE hE2
  generalize strictR (tl o) = R at X hne ⊢
  cases R with
  | ok P =>
    obtain ⟨M, m, t, u, v⟩ := P
    go_enter Tryd.func34, Tryd.ntmps34
    go_wp2_with (first | (go_at_call 89; (with_reducible refine X.out.mono ?_); rintro e w1 ⟨hb, N, rfl, hV⟩; dsimp only at hV) | (go_at_call 88; (with_reducible refine (read_ok _ _ _ _ _ _ N _ hV).mono ?_); rintro e w2 ⟨rfl, hb2⟩; have hb3 := hb.trans (hb2.mono hb.size); obtain ⟨hc, hf⟩ := bcell hb3; have hz := hb3.size; have HB1 : Below w.heap.size w w2 := ((Below.refl _ w).alloc (Nat.le_refl _) _).trans (hb3.mono (by simp))))
    exact bodyPost_ret (v := strictV (.ok ⟨M, m, t, u, v⟩)) (by simp [strictV, results, Tryd.results34, go_sem, hc, hz]) rfl ⟨rfl, by first | exact ((((HB1.setCell (Nat.le_refl _) _).setCell (Nat.le_refl _) _).setCell (Nat.le_refl _) _).setCell (Nat.le_refl _) _).setCell (Nat.le_refl _) _⟩
  | er k =>
    have hne' : k ≠ 0 := hne
    go_enter Tryd.func34, Tryd.ntmps34
    go_wp2_with (first | (go_at_call 89; (with_reducible refine X.out.mono ?_); rintro e w1 ⟨hb, v, rfl, hV⟩) | (go_at_call 88; (with_reducible refine (read_er (.pointer none) E k hne' v _ hV).mono ?_); rintro e w2 ⟨rfl, hb2⟩; have hb3 := hb.trans (hb2.mono hb.size); obtain ⟨hc, hf⟩ := bcell hb3; have hz := hb3.size; have HB1 : Below w.heap.size w w2 := ((Below.refl _ w).alloc (Nat.le_refl _) _).trans (hb3.mono (by simp))))
    exact bodyPost_ret (v := strictV (.er k)) (by simp [strictV, results, Tryd.results34, go_sem, hc, hz]) rfl ⟨rfl, by first | exact ((((HB1.setCell (Nat.le_refl _) _).setCell (Nat.le_refl _) _).setCell (Nat.le_refl _) _).setCell (Nat.le_refl _) _).setCell (Nat.le_refl _) _⟩
end Go.Proofs.YtalpehfjjidfhaaDoor.MS
