/- What is proved: by hand, the printed form of a version. -/
import Derived.Test.YtalpehfjjidfhaaDoorHandF
import Derived.Test.YtalpehfjjidfhaaDoorHandSv
namespace Go.Proofs.YtalpehfjjidfhaaDoor.MS
open Go Go.RowKit Sv Hand
open Go.Proofs.YtalpehfjjidfhaaDoorW.PrintWords Go.Proofs.YtalpehfjjidfhaaDoorW.PrintLast Go.Proofs.YtalpehfjjidfhaaDoorW.PrintMore
open Go.Proofs.YtalpehfjjidfhaaDoor.MA (tl)
set_option linter.unusedVariables false
set_option linter.unusedSimpArgs false
def dec (n : Nat) : ByteArray := ⟨(Lib.decDigits n).toArray⟩
theorem dec_size (n : Nat) (h : n < 18446744073709551616) : (dec n).size ≤ 20 := by
  have h1 : (dec n).size = Lib.nDigits n := by unfold dec; simp [ByteArray.size, Lib.decDigits_length]
  rw [h1]
  by_cases h0 : n < 10
  · rw [Lib.nDigits_small h0]; omega
  · have := Lib.numDigits_eq n (by omega) h
    split at this <;> omega
def numT (M m t : Nat) : ByteArray := dec M ++ ⟨#[46]⟩ ++ dec m ++ ⟨#[46]⟩ ++ dec t
def preT (s u : ByteArray) (c : UInt8) : ByteArray := if u.toList.isEmpty = true then s else s ++ (⟨#[c]⟩ ++ u)
def verT (M m t : Nat) (u v : ByteArray) : ByteArray := preT (preT (numT M m t) u 45) v 43
theorem FU (n : Nat) (h : n < 18446744073709551616) (w : World) (hT : Tab w) : Calls Tryd.prog 150 #[.int .u64 (n : Int), .int .i64 10] w fun e w' => e = .returned (.string (dec n)) ∧ Below w.heap.size w w' := FormatUint_any n h w hT
theorem z46 : (⟨#[46]⟩ : ByteArray).size = 1 := rfl
/-- While a version is printed: its block (the first one made), the table, the elder memory. -/
structure StrI (w w' : World) (M m t : Nat) (u v o : ByteArray) : Prop where mk ::
  (blk : w'.heap[w.heap.size]? = some (.cells #[.int .u64 M, .int .u64 m, .int .u64 t, .string u, .string v, .string o] 97 (0, 0)))
  (tab : Tab w')
  (B : Below w.heap.size w w')
theorem StrI.below {w w1 w2 : World} {M m t : Nat} {u v o : ByteArray} (h : StrI w w1 M m t u v o) (hb : Below w1.heap.size w1 w2) : StrI w w2 M m t u v o :=
  ⟨blk_below h.blk hb, h.tab.below hb, h.B.trans (hb.mono h.B.size)⟩
theorem StrI.all {w w1 : World} {M m t : Nat} {u v o : ByteArray} (h : StrI w w1 M m t u v o) : w1.cell? ⟨w.heap.size, 0, none⟩ = some (.int .u64 M) ∧ w1.cell? ⟨w.heap.size, 1, none⟩ = some (.int .u64 m) ∧ w1.cell? ⟨w.heap.size, 2, none⟩ = some (.int .u64 t) ∧ StrI w w1 M m t u v o :=
  ⟨(blk_cell h.blk 0).trans rfl, (blk_cell h.blk 1).trans rfl, (blk_cell h.blk 2).trans rfl, h⟩
set_option maxHeartbeats 4000000 in
set_option maxRecDepth 100000 in
theorem String_any (M m t : Nat) (u v o : ByteArray) (hM : M < 18446744073709551616) (hm : m < 18446744073709551616) (ht : t < 18446744073709551616) (hu : u.size ≤ 140737488351232) (hv : v.size ≤ 140737488351232) (w : World) (hT : Tab w) :
    Calls Tryd.prog 104 #[.agg #[.int .u64 M, .int .u64 m, .int .u64 t, .string u, .string v, .string o]] w fun e w' => e = .returned (.string (verT M m t u v)) ∧ Below w.heap.size w w' := by
  have s0 := dec_size M hM
  have s1 := dec_size m hm
  have s2 := dec_size t ht
  have F0 := Aside0.mk (FU M hM)
  have F1 := Aside0.mk (FU m hm)
  have F2 := Aside0.mk (FU t ht)
  have hW : (w.alloc (.cells #[.int .u64 M, .int .u64 m, .int .u64 t, .string u, .string v, .string o] 97)).heap[w.heap.size]? = some (.cells #[.int .u64 M, .int .u64 m, .int .u64 t, .string u, .string v, .string o] 97 (0, 0)) := by
    show (w.heap.push _)[w.heap.size]? = _
    rw [Array.getElem?_push, if_pos rfl]
  have hbW := (Below.refl _ w).alloc (Nat.le_refl _) (.cells #[.int .u64 M, .int .u64 m, .int .u64 t, .string u, .string v, .string o] 97)
  have hK0 := Aside0.mk (StrI.below ⟨hW, hT.below hbW, hbW⟩ (below_drew (Below.refl _ _)))
  clear hW hbW hT hM hm ht
  unfold verT numT
  generalize dec M = dM at s0 F0 ⊢
  generalize dec m = dm at s1 F1 ⊢
  generalize dec t = dt at s2 F2 ⊢
  obtain ⟨RV, hRV⟩ : ∃ RV, preT (preT (dM ++ ⟨#[46]⟩ ++ dm ++ ⟨#[46]⟩ ++ dt) u 45) v 43 = RV := ⟨_, rfl⟩
  rw [hRV]
  replace hRV := Aside0.mk hRV
  go_enter Tryd.func104, Tryd.ntmps104
  go_upto_region 1 with fail
  go_cut [3] (fun v3 wc => v3 = .string (dM ++ ⟨#[46]⟩ ++ dm ++ ⟨#[46]⟩ ++ dt) ∧ Aside0 (StrI w wc M m t u v o))
  case first =>
    refine start_ (n := 14) (S := fun w' => w'.cell? ⟨w.heap.size, 0, none⟩ = some (.int .u64 M) ∧ w'.cell? ⟨w.heap.size, 1, none⟩ = some (.int .u64 m) ∧ w'.cell? ⟨w.heap.size, 2, none⟩ = some (.int .u64 t) ∧ StrI w w' M m t u v o) (ds := []) #[false, false, false, false, false, false, false, false, false, false, false, false, false, false] (by kernel_rfl) rfl rfl (StrI.all hK0.out) (fun hHeld => ?_)
    refine pure_ (i := 0) (N := some 4) (v := ?_) (a' := ?_) #[true, false, false, false, false, false, false, false, false, false, false, false, false, false] rfl rfl (by kernel_rfl) (fun _ _ _ h => h) (Or.inl ⟨by rfl, ?_⟩) ?_ ?_
    rotate_left
    · intro w'
      go_simp
      with_reducible rfl
    rotate_left
    · simp only [Act.put, List.setIfInBounds_toArray, List.set_cons_zero, List.set_cons_succ, i64_w, i32_w]
      rfl
    refine pure_ (i := 4) (N := some 8) (v := ?_) (a' := ?_) #[true, false, false, false, true, false, false, false, false, false, false, false, false, false] rfl rfl (by kernel_rfl) (fun _ _ _ h => h) (Or.inl ⟨by rfl, ?_⟩) ?_ ?_
    rotate_left
    · intro w'
      go_simp
      with_reducible rfl
    rotate_left
    · simp only [Act.put, List.setIfInBounds_toArray, List.set_cons_zero, List.set_cons_succ, i64_w, i32_w]
      rfl
    refine pure_ (i := 9) (N := some 13) (v := ?_) (a' := ?_) #[true, false, false, false, true, false, false, false, false, true, false, false, false, false] rfl rfl (by kernel_rfl) (fun _ _ _ h => h) (Or.inl ⟨by rfl, ?_⟩) ?_ ?_
    rotate_left
    · intro w'
      go_simp
      with_reducible rfl
    rotate_left
    · simp only [Act.put, List.setIfInBounds_toArray, List.set_cons_zero, List.set_cons_succ, i64_w, i32_w]
      rfl
    refine take_ (i := 1) (N := some 5) (v := ?_) (a' := ?_) #[true, true, false, false, true, false, false, false, false, true, false, false, false, false] rfl rfl (by kernel_rfl) (fun _ _ _ h => h) (Or.inl ⟨by rfl, ?_⟩) hHeld ?_ ?_
    rotate_left
    · rintro w' ⟨s0, s1, s2, s3⟩
      go_simp
      with_reducible rfl
    rotate_left
    · simp only [Act.put, List.setIfInBounds_toArray, List.set_cons_zero, List.set_cons_succ, i64_w, i32_w]
      rfl
    refine take_ (i := 5) (N := some 9) (v := ?_) (a' := ?_) #[true, true, false, false, true, true, false, false, false, true, false, false, false, false] rfl rfl (by kernel_rfl) (fun _ _ _ h => h) (Or.inl ⟨by rfl, ?_⟩) hHeld ?_ ?_
    rotate_left
    · rintro w' ⟨s0, s1, s2, s3⟩
      go_simp
      with_reducible rfl
    rotate_left
    · simp only [Act.put, List.setIfInBounds_toArray, List.set_cons_zero, List.set_cons_succ, i64_w, i32_w]
      rfl
    refine take_ (i := 10) (N := some 14) (v := ?_) (a' := ?_) #[true, true, false, false, true, true, false, false, false, true, true, false, false, false] rfl rfl (by kernel_rfl) (fun _ _ _ h => h) (Or.inl ⟨by rfl, ?_⟩) hHeld ?_ ?_
    rotate_left
    · rintro w' ⟨s0, s1, s2, s3⟩
      go_simp
      with_reducible rfl
    rotate_left
    · simp only [Act.put, List.setIfInBounds_toArray, List.set_cons_zero, List.set_cons_succ, i64_w, i32_w]
      rfl
    refine one_ (i := 2) (N := some 6) #[true, true, true, false, true, true, false, false, false, true, true, false, false, false] rfl rfl (by kernel_rfl) (by decide) (fun K hK => ?_)
    refine goes_ Tryd.func150 (by kernel_rfl) rfl #[.int .u64 (M : Int), .int .i64 10] (by rfl) rfl rfl (by (try simp only [List.map_toArray, List.map_cons, List.map_nil]); first | done | rfl) ?_
    refine (F0.out _ hK0.out.tab).mono ?_
    rintro e w2 ⟨rfl, hb⟩
    refine ⟨_, rfl, ?_⟩
    have hK2 := Aside0.mk (hK0.out.below hb)
    clear hK0 hb
    have hK0 := hK2
    clear hK2
    refine hK.out _ _ hK0.out.all (fun hHeld => ?_)
    clear hK K
    refine norm_ (a' := ?_) ?_ ?_
    rotate_left
    · show Act.put _ (some 6) _ = _
      simp only [Act.put, List.setIfInBounds_toArray, List.set_cons_zero, List.set_cons_succ, i64_w, i32_w]
      rfl
    refine pure_ (i := 3) (N := some 7) (v := ?_) (a' := ?_) #[true, true, true, true, true, true, false, false, false, true, true, false, false, false] rfl rfl (by kernel_rfl) (fun _ _ _ h => h) (Or.inl ⟨by rfl, ?_⟩) ?_ ?_
    rotate_left
    · intro w'
      go_simp
      rw [if_neg (by omega)]
    rotate_left
    · simp only [Act.put, List.setIfInBounds_toArray, List.set_cons_zero, List.set_cons_succ, i64_w, i32_w]
      rfl
    refine one_ (i := 6) (N := some 10) #[true, true, true, true, true, true, true, false, false, true, true, false, false, false] rfl rfl (by kernel_rfl) (by decide) (fun K hK => ?_)
    refine goes_ Tryd.func150 (by kernel_rfl) rfl #[.int .u64 (m : Int), .int .i64 10] (by rfl) rfl rfl (by (try simp only [List.map_toArray, List.map_cons, List.map_nil]); first | done | rfl) ?_
    refine (F1.out _ hK0.out.tab).mono ?_
    rintro e w6 ⟨rfl, hb⟩
    refine ⟨_, rfl, ?_⟩
    have hK2 := Aside0.mk (hK0.out.below hb)
    clear hK0 hb
    have hK0 := hK2
    clear hK2
    refine hK.out _ _ hK0.out.all (fun hHeld => ?_)
    clear hK K
    refine norm_ (a' := ?_) ?_ ?_
    rotate_left
    · show Act.put _ (some 10) _ = _
      simp only [Act.put, List.setIfInBounds_toArray, List.set_cons_zero, List.set_cons_succ, i64_w, i32_w]
      rfl
    refine pure_ (i := 7) (N := some 11) (v := ?_) (a' := ?_) #[true, true, true, true, true, true, true, true, false, true, true, false, false, false] rfl rfl (by kernel_rfl) (fun _ _ _ h => h) (Or.inl ⟨by rfl, ?_⟩) ?_ ?_
    rotate_left
    · intro w'
      go_simp
      rw [if_neg (by omega)]
    rotate_left
    · simp only [Act.put, List.setIfInBounds_toArray, List.set_cons_zero, List.set_cons_succ, i64_w, i32_w]
      rfl
    refine pure_ (i := 8) (N := some 12) (v := ?_) (a' := ?_) #[true, true, true, true, true, true, true, true, true, true, true, false, false, false] rfl rfl (by kernel_rfl) (fun _ _ _ h => h) (Or.inl ⟨by rfl, ?_⟩) ?_ ?_
    rotate_left
    · intro w'
      go_simp
      rw [if_neg (by omega)]
    rotate_left
    · simp only [Act.put, List.setIfInBounds_toArray, List.set_cons_zero, List.set_cons_succ, i64_w, i32_w]
      rfl
    refine one_ (i := 11) (N := some 15) #[true, true, true, true, true, true, true, true, true, true, true, true, false, false] rfl rfl (by kernel_rfl) (by decide) (fun K hK => ?_)
    refine goes_ Tryd.func150 (by kernel_rfl) rfl #[.int .u64 (t : Int), .int .i64 10] (by rfl) rfl rfl (by (try simp only [List.map_toArray, List.map_cons, List.map_nil]); first | done | rfl) ?_
    refine (F2.out _ hK0.out.tab).mono ?_
    rintro e w11 ⟨rfl, hb⟩
    refine ⟨_, rfl, ?_⟩
    have hK2 := Aside0.mk (hK0.out.below hb)
    clear hK0 hb
    have hK0 := hK2
    clear hK2
    refine hK.out _ _ hK0.out.all (fun hHeld => ?_)
    clear hK K
    refine norm_ (a' := ?_) ?_ ?_
    rotate_left
    · show Act.put _ (some 15) _ = _
      simp only [Act.put, List.setIfInBounds_toArray, List.set_cons_zero, List.set_cons_succ, i64_w, i32_w]
      rfl
    refine pure_ (i := 12) (N := some 16) (v := ?_) (a' := ?_) #[true, true, true, true, true, true, true, true, true, true, true, true, true, false] rfl rfl (by kernel_rfl) (fun _ _ _ h => h) (Or.inl ⟨by rfl, ?_⟩) ?_ ?_
    rotate_left
    · intro w'
      go_simp
      rw [if_neg (by omega)]
    rotate_left
    · simp only [Act.put, List.setIfInBounds_toArray, List.set_cons_zero, List.set_cons_succ, i64_w, i32_w]
      rfl
    refine pure_ (i := 13) (N := some 3) (v := ?_) (a' := ?_) #[true, true, true, true, true, true, true, true, true, true, true, true, true, true] rfl rfl (by kernel_rfl) (fun _ _ _ h => h) (Or.inl ⟨by rfl, ?_⟩) ?_ ?_
    rotate_left
    · intro w'
      go_simp
      with_reducible rfl
    rotate_left
    · simp only [Act.put, List.setIfInBounds_toArray, List.set_cons_zero, List.set_cons_succ, i64_w, i32_w]
      rfl
    refine done_ (by kernel_rfl) ?_
    go_wp2_with fail
    go_meet
    case rel => exact ⟨rfl, hK0⟩
  case rest =>
    obtain ⟨rfl, hK1⟩ := hcut
    obtain ⟨x, hx⟩ : ∃ x, dM ++ ⟨#[46]⟩ ++ dm ++ ⟨#[46]⟩ ++ dt = x := ⟨_, rfl⟩
    have hxs : x.size ≤ 100 := by rw [← hx]; simp only [ByteArray.size_append, z46]; omega
    have hRV2 := hRV.out
    rw [hx] at hRV2 ⊢
    clear hx hRV s0 s1 s2 F0 F1 F2 hK0
    have z3 := (blk_cell hK1.out.blk 3).trans rfl
    have z4 := (blk_cell hK1.out.blk 4).trans rfl
    have l45 : (⟨#[45]⟩ ++ u).size = 1 + u.size := by rw [ByteArray.size_append]; rfl
    have l43 : (⟨#[43]⟩ ++ v).size = 1 + v.size := by rw [ByteArray.size_append]; rfl
    cases eu : u.toList.isEmpty <;> cases ev : v.toList.isEmpty
    all_goals
      have eu2 : (!u.toList.isEmpty) = _ := congrArg not eu
      have ev2 : (!v.toList.isEmpty) = _ := congrArg not ev
      simp only [Bool.not_true, Bool.not_false] at eu2 ev2
      unfold preT at hRV2
      rw [eu, ev] at hRV2
      simp only [Bool.false_eq_true, if_false, if_true] at hRV2
      subst hRV2
      go_wp2_with fail
      go_ret
      exact ⟨rfl, hK1.out.B⟩
end Go.Proofs.YtalpehfjjidfhaaDoor.MS
