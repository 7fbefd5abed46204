/- What is proved: by hand, the grammar's printing of a version. -/
import Derived.Test.YtalpehfjjidfhaaDoorHandSetT
import Derived.Test.YtalpehfjjidfhaaDoorMTx1
namespace Go.Proofs.YtalpehfjjidfhaaDoor.MS
open Go Go.RowKit Sv Hand MT
open Go.Proofs.YtalpehfjjidfhaaDoorW.PrintWords Go.Proofs.YtalpehfjjidfhaaDoorW.PrintLast Go.Proofs.YtalpehfjjidfhaaDoorW.PrintMore
open Go.Proofs.YtalpehfjjidfhaaDoor.MA (tl)
set_option linter.unusedVariables false
set_option linter.unusedSimpArgs false
theorem strOf1 (x : Int) : strOfNums [x] = ⟨#[UInt8.ofNat x.toNat]⟩ := rfl
theorem Decimal_f : ∀ (k n : Nat), n < k → n < 18446744073709551616 → spec_Decimal.f k (n : Int) = some (dec n)
  | 0, n, h, _ => by omega
  | k + 1, n, h, h64 => by
    unfold spec_Decimal.f dec
    rw [Lib.decDigits]
    by_cases hn : n < 10
    · rw [if_pos (by omega), dif_pos hn, strOf1]
      have e : (48 + (n : Int) % 256) % 256 = ((48 + n : Nat) : Int) := by omega
      rw [e]
      rfl
    · rw [if_neg (by omega), dif_neg hn]
      have e0 : Int.tdiv (n : Int) 10 = ((n / 10 : Nat) : Int) := by rw [Int.tdiv_eq_ediv_of_nonneg (by omega)]; omega
      have e1 : Int.tmod (n : Int) 10 = ((n % 10 : Nat) : Int) := by rw [Int.tmod_eq_emod_of_nonneg (by omega)]; omega
      have e2 : IntKind.u64.wrap (((n / 10 : Nat) : Int)) = ((n / 10 : Nat) : Int) := by rw [IntKind.wrap_u64]; omega
      rw [e0, e1, e2, Decimal_f k (n / 10) (by omega) (by omega)]
      simp only [Option.bind_some]
      have e3 : (48 + ((n % 10 : Nat) : Int) % 256) % 256 = ((48 + n % 10 : Nat) : Int) := by omega
      have hs := dec_size (n / 10) (by omega)
      have hs2 : (strOfNums [((48 + n % 10 : Nat) : Int)]).size = 1 := rfl
      rw [e3, if_pos (by omega), strOf1]
      rw [show (((48 + n % 10 : Nat) : Int)).toNat = 48 + n % 10 from Int.toNat_natCast _]
      exact congrArg some (bytes_ext (by unfold dec; simp))
theorem DU (n : Nat) (h : n < 18446744073709551616) (w : World) : Calls Tryd.prog 30 #[.int .u64 (n : Int)] w fun e w' => e = .returned (.string (dec n)) ∧ Below w.heap.size w w' :=
  spec_Decimal.calls (n + 1) n _ w (Decimal_f (n + 1) n (by omega) h)
/-- While a version is printed: its block (the first one made), the table, the elder memory. -/
structure StrJ (w w' : World) (M m t : Nat) (u v : ByteArray) : Prop where mk ::
  (blk : w'.heap[w.heap.size]? = some (.cells #[.int .u64 M, .int .u64 m, .int .u64 t, .string u, .string v] 29 (0, 0)))
  (B : Below w.heap.size w w')
theorem StrJ.below {w w1 w2 : World} {M m t : Nat} {u v : ByteArray} (h : StrJ w w1 M m t u v) (hb : Below w1.heap.size w1 w2) : StrJ w w2 M m t u v :=
  ⟨blk_below h.blk hb, h.B.trans (hb.mono h.B.size)⟩
theorem StrJ.all {w w1 : World} {M m t : Nat} {u v : ByteArray} (h : StrJ w w1 M m t u v) : w1.cell? ⟨w.heap.size, 0, none⟩ = some (.int .u64 M) ∧ w1.cell? ⟨w.heap.size, 1, none⟩ = some (.int .u64 m) ∧ w1.cell? ⟨w.heap.size, 2, none⟩ = some (.int .u64 t) ∧ StrJ w w1 M m t u v :=
  ⟨(blk_cell h.blk 0).trans rfl, (blk_cell h.blk 1).trans rfl, (blk_cell h.blk 2).trans rfl, h⟩
set_option maxHeartbeats 4000000 in
set_option maxRecDepth 100000 in
theorem SpecText_any (M m t : Nat) (u v : ByteArray) (hM : M < 18446744073709551616) (hm : m < 18446744073709551616) (ht : t < 18446744073709551616) (hu : u.size ≤ 140737488351232) (hv : v.size ≤ 140737488351232) (w : World) :
    Calls Tryd.prog 101 #[.agg #[.int .u64 M, .int .u64 m, .int .u64 t, .string u, .string v]] w fun e w' => e = .returned (.string (verT M m t u v)) ∧ Below w.heap.size w w' := by
  have s0 := dec_size M hM
  have s1 := dec_size m hm
  have s2 := dec_size t ht
  have F0 := Aside0.mk (DU M hM)
  have F1 := Aside0.mk (DU m hm)
  have F2 := Aside0.mk (DU t ht)
  have hW : (w.alloc (.cells #[.int .u64 M, .int .u64 m, .int .u64 t, .string u, .string v] 29)).heap[w.heap.size]? = some (.cells #[.int .u64 M, .int .u64 m, .int .u64 t, .string u, .string v] 29 (0, 0)) := by
    show (w.heap.push _)[w.heap.size]? = _
    rw [Array.getElem?_push, if_pos rfl]
  have hbW := (Below.refl _ w).alloc (Nat.le_refl _) (.cells #[.int .u64 M, .int .u64 m, .int .u64 t, .string u, .string v] 29)
  have hK0 := Aside0.mk (StrJ.below ⟨hW, hbW⟩ (below_drew (Below.refl _ _)))
  clear hW hbW hM hm ht
  unfold verT numT
  generalize dec M = dM at s0 F0 ⊢
  generalize dec m = dm at s1 F1 ⊢
  generalize dec t = dt at s2 F2 ⊢
  obtain ⟨RV, hRV⟩ : ∃ RV, preT (preT (dM ++ ⟨#[46]⟩ ++ dm ++ ⟨#[46]⟩ ++ dt) u 45) v 43 = RV := ⟨_, rfl⟩
  rw [hRV]
  replace hRV := Aside0.mk hRV
  go_enter Tryd.func101, Tryd.ntmps101
  go_upto_region 1 with fail
  go_cut [3] (fun v3 wc => v3 = .string (dM ++ ⟨#[46]⟩ ++ dm ++ ⟨#[46]⟩ ++ dt) ∧ Aside0 (StrJ w wc M m t u v))
  case first =>
    refine start_ (n := 14) (S := fun w' => w'.cell? ⟨w.heap.size, 0, none⟩ = some (.int .u64 M) ∧ w'.cell? ⟨w.heap.size, 1, none⟩ = some (.int .u64 m) ∧ w'.cell? ⟨w.heap.size, 2, none⟩ = some (.int .u64 t) ∧ StrJ w w' M m t u v) (ds := []) #[false, false, false, false, false, false, false, false, false, false, false, false, false, false] (by kernel_rfl) rfl rfl (StrJ.all hK0.out) (fun hHeld => ?_)
    refine pure_ (i := 0) (N := some 4) (v := ?_) (a' := ?_) #[true, false, false, false, false, false, false, false, false, false, false, false, false, false] rfl rfl (by kernel_rfl) (fun _ _ _ h => h) (Or.inl ⟨by rfl, ?_⟩) ?_ ?_
    rotate_left
    · intro w'
      go_simp
      with_reducible rfl
    rotate_left
    · simp only [Act.put, List.setIfInBounds_toArray, List.set_cons_zero, List.set_cons_succ, i64_w, i32_w]
      rfl
    refine pure_ (i := 4) (N := some 8) (v := ?_) (a' := ?_) #[true, false, false, false, true, false, false, false, false, false, false, false, false, false] rfl rfl (by kernel_rfl) (fun _ _ _ h => h) (Or.inl ⟨by rfl, ?_⟩) ?_ ?_
    rotate_left
    · intro w'
      go_simp
      with_reducible rfl
    rotate_left
    · simp only [Act.put, List.setIfInBounds_toArray, List.set_cons_zero, List.set_cons_succ, i64_w, i32_w]
      rfl
    refine pure_ (i := 9) (N := some 13) (v := ?_) (a' := ?_) #[true, false, false, false, true, false, false, false, false, true, false, false, false, false] rfl rfl (by kernel_rfl) (fun _ _ _ h => h) (Or.inl ⟨by rfl, ?_⟩) ?_ ?_
    rotate_left
    · intro w'
      go_simp
      with_reducible rfl
    rotate_left
    · simp only [Act.put, List.setIfInBounds_toArray, List.set_cons_zero, List.set_cons_succ, i64_w, i32_w]
      rfl
    refine take_ (i := 1) (N := some 5) (v := ?_) (a' := ?_) #[true, true, false, false, true, false, false, false, false, true, false, false, false, false] rfl rfl (by kernel_rfl) (fun _ _ _ h => h) (Or.inl ⟨by rfl, ?_⟩) hHeld ?_ ?_
    rotate_left
    · rintro w' ⟨s0, s1, s2, s3⟩
      go_simp
      with_reducible rfl
    rotate_left
    · simp only [Act.put, List.setIfInBounds_toArray, List.set_cons_zero, List.set_cons_succ, i64_w, i32_w]
      rfl
    refine take_ (i := 5) (N := some 9) (v := ?_) (a' := ?_) #[true, true, false, false, true, true, false, false, false, true, false, false, false, false] rfl rfl (by kernel_rfl) (fun _ _ _ h => h) (Or.inl ⟨by rfl, ?_⟩) hHeld ?_ ?_
    rotate_left
    · rintro w' ⟨s0, s1, s2, s3⟩
      go_simp
      with_reducible rfl
    rotate_left
    · simp only [Act.put, List.setIfInBounds_toArray, List.set_cons_zero, List.set_cons_succ, i64_w, i32_w]
      rfl
    refine take_ (i := 10) (N := some 14) (v := ?_) (a' := ?_) #[true, true, false, false, true, true, false, false, false, true, true, false, false, false] rfl rfl (by kernel_rfl) (fun _ _ _ h => h) (Or.inl ⟨by rfl, ?_⟩) hHeld ?_ ?_
    rotate_left
    · rintro w' ⟨s0, s1, s2, s3⟩
      go_simp
      with_reducible rfl
    rotate_left
    · simp only [Act.put, List.setIfInBounds_toArray, List.set_cons_zero, List.set_cons_succ, i64_w, i32_w]
      rfl
    refine one_ (i := 2) (N := some 6) #[true, true, true, false, true, true, false, false, false, true, true, false, false, false] rfl rfl (by kernel_rfl) (by decide) (fun K hK => ?_)
    refine goes_ Tryd.func30 (by kernel_rfl) rfl #[.int .u64 (M : Int)] (by rfl) rfl rfl (by (try simp only [List.map_toArray, List.map_cons, List.map_nil]); first | done | rfl) ?_
    refine (F0.out _).mono ?_
    rintro e w2 ⟨rfl, hb⟩
    refine ⟨_, rfl, ?_⟩
    have hK2 := Aside0.mk (hK0.out.below hb)
    clear hK0 hb
    have hK0 := hK2
    clear hK2
    refine hK.out _ _ hK0.out.all (fun hHeld => ?_)
    clear hK K
    refine norm_ (a' := ?_) ?_ ?_
    rotate_left
    · show Act.put _ (some 6) _ = _
      simp only [Act.put, List.setIfInBounds_toArray, List.set_cons_zero, List.set_cons_succ, i64_w, i32_w]
      rfl
    refine pure_ (i := 3) (N := some 7) (v := ?_) (a' := ?_) #[true, true, true, true, true, true, false, false, false, true, true, false, false, false] rfl rfl (by kernel_rfl) (fun _ _ _ h => h) (Or.inl ⟨by rfl, ?_⟩) ?_ ?_
    rotate_left
    · intro w'
      go_simp
      rw [if_neg (by omega)]
    rotate_left
    · simp only [Act.put, List.setIfInBounds_toArray, List.set_cons_zero, List.set_cons_succ, i64_w, i32_w]
      rfl
    refine one_ (i := 6) (N := some 10) #[true, true, true, true, true, true, true, false, false, true, true, false, false, false] rfl rfl (by kernel_rfl) (by decide) (fun K hK => ?_)
    refine goes_ Tryd.func30 (by kernel_rfl) rfl #[.int .u64 (m : Int)] (by rfl) rfl rfl (by (try simp only [List.map_toArray, List.map_cons, List.map_nil]); first | done | rfl) ?_
    refine (F1.out _).mono ?_
    rintro e w6 ⟨rfl, hb⟩
    refine ⟨_, rfl, ?_⟩
    have hK2 := Aside0.mk (hK0.out.below hb)
    clear hK0 hb
    have hK0 := hK2
    clear hK2
    refine hK.out _ _ hK0.out.all (fun hHeld => ?_)
    clear hK K
    refine norm_ (a' := ?_) ?_ ?_
    rotate_left
    · show Act.put _ (some 10) _ = _
      simp only [Act.put, List.setIfInBounds_toArray, List.set_cons_zero, List.set_cons_succ, i64_w, i32_w]
      rfl
    refine pure_ (i := 7) (N := some 11) (v := ?_) (a' := ?_) #[true, true, true, true, true, true, true, true, false, true, true, false, false, false] rfl rfl (by kernel_rfl) (fun _ _ _ h => h) (Or.inl ⟨by rfl, ?_⟩) ?_ ?_
    rotate_left
    · intro w'
      go_simp
      rw [if_neg (by omega)]
    rotate_left
    · simp only [Act.put, List.setIfInBounds_toArray, List.set_cons_zero, List.set_cons_succ, i64_w, i32_w]
      rfl
    refine pure_ (i := 8) (N := some 12) (v := ?_) (a' := ?_) #[true, true, true, true, true, true, true, true, true, true, true, false, false, false] rfl rfl (by kernel_rfl) (fun _ _ _ h => h) (Or.inl ⟨by rfl, ?_⟩) ?_ ?_
    rotate_left
    · intro w'
      go_simp
      rw [if_neg (by omega)]
    rotate_left
    · simp only [Act.put, List.setIfInBounds_toArray, List.set_cons_zero, List.set_cons_succ, i64_w, i32_w]
      rfl
    refine one_ (i := 11) (N := some 15) #[true, true, true, true, true, true, true, true, true, true, true, true, false, false] rfl rfl (by kernel_rfl) (by decide) (fun K hK => ?_)
    refine goes_ Tryd.func30 (by kernel_rfl) rfl #[.int .u64 (t : Int)] (by rfl) rfl rfl (by (try simp only [List.map_toArray, List.map_cons, List.map_nil]); first | done | rfl) ?_
    refine (F2.out _).mono ?_
    rintro e w11 ⟨rfl, hb⟩
    refine ⟨_, rfl, ?_⟩
    have hK2 := Aside0.mk (hK0.out.below hb)
    clear hK0 hb
    have hK0 := hK2
    clear hK2
    refine hK.out _ _ hK0.out.all (fun hHeld => ?_)
    clear hK K
    refine norm_ (a' := ?_) ?_ ?_
    rotate_left
    · show Act.put _ (some 15) _ = _
      simp only [Act.put, List.setIfInBounds_toArray, List.set_cons_zero, List.set_cons_succ, i64_w, i32_w]
      rfl
    refine pure_ (i := 12) (N := some 16) (v := ?_) (a' := ?_) #[true, true, true, true, true, true, true, true, true, true, true, true, true, false] rfl rfl (by kernel_rfl) (fun _ _ _ h => h) (Or.inl ⟨by rfl, ?_⟩) ?_ ?_
    rotate_left
    · intro w'
      go_simp
      rw [if_neg (by omega)]
    rotate_left
    · simp only [Act.put, List.setIfInBounds_toArray, List.set_cons_zero, List.set_cons_succ, i64_w, i32_w]
      rfl
    refine pure_ (i := 13) (N := some 3) (v := ?_) (a' := ?_) #[true, true, true, true, true, true, true, true, true, true, true, true, true, true] rfl rfl (by kernel_rfl) (fun _ _ _ h => h) (Or.inl ⟨by rfl, ?_⟩) ?_ ?_
    rotate_left
    · intro w'
      go_simp
      with_reducible rfl
    rotate_left
    · simp only [Act.put, List.setIfInBounds_toArray, List.set_cons_zero, List.set_cons_succ, i64_w, i32_w]
      rfl
    refine done_ (by kernel_rfl) ?_
    go_wp2_with fail
    go_meet
    case rel => exact ⟨rfl, hK0⟩
  case rest =>
    obtain ⟨rfl, hK1⟩ := hcut
    obtain ⟨x, hx⟩ : ∃ x, dM ++ ⟨#[46]⟩ ++ dm ++ ⟨#[46]⟩ ++ dt = x := ⟨_, rfl⟩
    have hxs : x.size ≤ 100 := by rw [← hx]; simp only [ByteArray.size_append, z46]; omega
    have hRV2 := hRV.out
    rw [hx] at hRV2 ⊢
    clear hx hRV s0 s1 s2 F0 F1 F2 hK0
    have z3 := (blk_cell hK1.out.blk 3).trans rfl
    have z4 := (blk_cell hK1.out.blk 4).trans rfl
    have l45 : (⟨#[45]⟩ ++ u).size = 1 + u.size := by rw [ByteArray.size_append]; rfl
    have l43 : (⟨#[43]⟩ ++ v).size = 1 + v.size := by rw [ByteArray.size_append]; rfl
    cases eu : u.toList.isEmpty <;> cases ev : v.toList.isEmpty
    all_goals
      have eu2 : (!u.toList.isEmpty) = _ := congrArg not eu
      have ev2 : (!v.toList.isEmpty) = _ := congrArg not ev
      simp only [Bool.not_true, Bool.not_false] at eu2 ev2
      unfold preT at hRV2
      rw [eu, ev] at hRV2
      simp only [Bool.false_eq_true, if_false, if_true] at hRV2
      subst hRV2
      go_wp2_with fail
      go_ret
      exact ⟨rfl, hK1.out.B⟩
set_option maxHeartbeats 1000000 in
theorem Fits_any (M m t : Nat) (u v : ByteArray) (hM : M < 18446744073709551616) (hm : m < 18446744073709551616) (ht : t < 18446744073709551616) (hu : u.size ≤ 65536) (hv : v.size ≤ 65536) (w : World) :
    Calls Tryd.prog 49 #[.agg #[.int .u64 M, .int .u64 m, .int .u64 t, .string u, .string v]] w fun e w' => e = .returned (.bool (decide ((verT M m t u v).size ≤ 256))) ∧ Below w.heap.size w w' := by
  have X := Aside0.mk (SpecText_any M m t u v hM hm ht (by omega) (by omega))
  have hx := verT_size M m t u v hM hm ht hu hv
  generalize verT M m t u v = x at X hx ⊢
  have BASE := Aside0.mk ((Below.refl _ w).alloc (Nat.le_refl _) (.cells #[.int .u64 M, .int .u64 m, .int .u64 t, .string u, .string v] 29))
  go_enter Tryd.func49, Tryd.ntmps49
  go_wp2_with (first | (go_at_call 101; (with_reducible refine (X.out _).mono ?_); rintro e w1 ⟨rfl, hb⟩; have hB := Aside0.mk (BASE.out.trans (hb.mono (by simp)))))
  go_ret
  exact ⟨by simp; omega, hB.out⟩
end Go.Proofs.YtalpehfjjidfhaaDoor.MS
