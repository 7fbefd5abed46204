/- The reference's counts, by hand: cronSize, cronPart. -/
import Derived.Test.YtlgdaegaahnkbaaCnt
namespace Go.Proofs.Ytlgdaegaahnkbaa.Tm
open Go Go.RowKit Cal MC
open Go.Proofs.YtlgdaegaahnkbaaW.PrintWords Go.Proofs.YtlgdaegaahnkbaaW.PrintLast Go.Proofs.YtlgdaegaahnkbaaW.PrintMore
set_option linter.unusedVariables false
set_option linter.unusedSimpArgs false
/-- The values of a set, from 0 on. -/
def sG (g : Nat → Bool) (v : Int) : Bool := g (1 + v.toNat)
set_option maxHeartbeats 2000000 in
set_option maxRecDepth 100000 in
theorem size_any (g : Nat → Bool) (n : Nat) (w : World) (hn : n ≤ 63) : Calls Try.prog 69 #[.agg (arrB 64 g), .int .i64 0, .int .i64 ((n : Int) - 1)] w fun e w' => e = .returned (.int .i64 (cR (sG g) 0 n)) ∧ Below w.heap.size w w' := by
  have hF : (w.alloc (.cells (arrB 64 g) 30)).heap[w.heap.size]? = some (.cells (arrB 64 g) 30 (0, 0)) := heap_at _
  have HF := Aside0.mk hF
  have HN := Aside0.mk hn
  clear hF hn
  go_enter Try.func69, Try.ntmps69
  go_wp2_with fail
  go_loop [7, 8] (fun a c => ∃ v : Nat, a = .int .i64 (cR (sG g) 0 v) ∧ c = .int .i64 (v : Int) ∧ Aside0 (v ≤ n)) (fun a c => n - (intOf c).toNat)
  case atStart => exact ⟨0, rfl, rfl, ⟨by omega⟩⟩
  case round =>
    obtain ⟨v, rfl, rfl, hA⟩ := hrel
    by_cases hv : v < n
    · have e1 : decide ((v : Int) ≤ (n : Int) - 1) = true := decide_eq_true (by omega)
      have e2 : decide ((v : Int) ≤ 62) = true := decide_eq_true (by have := HN.out; omega)
      have c0 : (w.alloc (.cells (arrB 64 g) 30)).cell? ⟨w.heap.size, 1 + v, none⟩ = some (.bool (g (1 + v))) := (blk_cell HF.out (1 + v)).trans (arrB_get _ _ _ (by have := HN.out; omega))
      have b1 : (v : Int) < 63 := by have := HN.out; omega
      have hbd := cR_bd (sG g) 0 v
      have e3 : wrap64 (cR (sG g) 0 v + 1) = cR (sG g) 0 v + 1 := w64_in _ (by omega) (by omega)
      have e4 : wrap64 ((v : Int) + 1) = (v : Int) + 1 := w64_in _ (by omega) (by omega)
      clear hbd
      obtain ⟨q, hq⟩ : ∃ q, q = g (1 + v) := ⟨_, rfl⟩
      rw [← hq] at c0
      have HQ := Aside0.mk hq
      clear hq
      have hs := cR_succ (sG g) 0 v
      have HS : Aside0 (cR (sG g) 0 (v + 1) = cR (sG g) 0 v + (if q = true then 1 else 0)) := ⟨by
        rw [hs, Int.zero_add, show sG g (v : Int) = q from HQ.out.symm]⟩
      clear hs
      cases q
      · go_wp2_with fail
        go_round
        case rel => exact ⟨v + 1, by rw [HS.out]; simp, by go_num, ⟨by omega⟩⟩
        case measure => simp [intOf]; omega
      · go_wp2_with fail
        go_round
        case rel => exact ⟨v + 1, by rw [HS.out]; simp [e3], by go_num, ⟨by omega⟩⟩
        case measure => simp [intOf]; omega
    · have e1 : decide ((v : Int) ≤ (n : Int) - 1) = false := decide_eq_false (by omega)
      go_wp2_with fail
      go_ret
      obtain rfl : v = n := by have := hA.out; omega
      exact ⟨rfl, (Below.refl _ _).alloc (Nat.le_refl _) _⟩
-- GEN
theorem mul_bd {a b p q : Int} (a0 : 0 ≤ a) (a1 : a ≤ p) (b0 : 0 ≤ b) (b1 : b ≤ q) : 0 ≤ a * b ∧ a * b ≤ p * q := ⟨Int.mul_nonneg a0 b0, Int.mul_le_mul a1 b1 b0 (Int.le_trans a0 a1)⟩
theorem exec_load_at {P : Program} {o : Oper} {a : Act} {w : World} (ty : TypeId) (x : Operand) (ho : o.op = .load ty x) (g off n m : Nat) (f : Nat → Bool) (hx : a.eval x = .pointer (some ⟨g, off, none⟩)) (t : TypeId) (d : TypeDesc)
    (hg : w.heap[g]? = some (.cells (arrB n f) t (0, 0))) (hom : off + m ≤ n) (hu : P.underlying ty = some d) (hd : (match d with | .struct _ | .array _ _ => true | _ => false) = true) (hi : (P.info? ty).map (·.size) = some m) :
    (execOp a.eval o).run P w = .ok (.value (.agg (arrB m fun i => f (off + i)))) w := by
  unfold execOp
  simp only [ho, hx, Instr.loadAt, Instr.sureAddr, Sem.run_bind, Sem.run_pure, Result.andThen_ok, run_loadVar_at w g off n m t ty f (0, 0) d hg hom hu hd hi]
theorem cR_set (b : SB) (k : Nat) (p : Int → Bool) (n : Nat) (hk : k < 6) (h0 : lowK k = 0) (hn : (n : Int) ≤ highK k + 1) (hp : ∀ v, p v = bitOf (fldN b k) v) : cR (sG fun i => fcell b 6 (64 * k + i)) 0 n = cR p 0 n := by
  refine cR_congr fun j hj => ?_
  rw [Int.zero_add, hp]
  unfold sG
  rw [← fcell_in b k (j : Int) hk (by rw [h0]; omega) (by omega), Int.toNat_natCast, Nat.add_assoc]
theorem sizeH (b : SB) (x : Int) (w : World) (h0 : -1 ≤ x) (h1 : x ≤ 23) : Calls Try.prog 69 #[.agg (arrB 64 fun i => fcell b 6 (128 + i)), .int .i64 0, .int .i64 x] w fun e w' => e = .returned (.int .i64 (cR (hB b) 0 (x + 1).toNat)) ∧ Below w.heap.size w w' := by
  have h := size_any (fun i => fcell b 6 (128 + i)) (x + 1).toNat w (by omega)
  rw [show (((x + 1).toNat : Nat) : Int) - 1 = x by omega, cR_set b 2 (hB b) (x + 1).toNat (by decide) rfl (by show (((x + 1).toNat : Nat) : Int) ≤ 23 + 1; omega) (fun _ => rfl)] at h
  exact h
theorem sizeI (b : SB) (x : Int) (w : World) (h0 : -1 ≤ x) (h1 : x ≤ 59) : Calls Try.prog 69 #[.agg (arrB 64 fun i => fcell b 6 (64 + i)), .int .i64 0, .int .i64 x] w fun e w' => e = .returned (.int .i64 (cR (iB b) 0 (x + 1).toNat)) ∧ Below w.heap.size w w' := by
  have h := size_any (fun i => fcell b 6 (64 + i)) (x + 1).toNat w (by omega)
  rw [show (((x + 1).toNat : Nat) : Int) - 1 = x by omega, cR_set b 1 (iB b) (x + 1).toNat (by decide) rfl (by show (((x + 1).toNat : Nat) : Int) ≤ 59 + 1; omega) (fun _ => rfl)] at h
  exact h
theorem sizeS (b : SB) (x : Int) (w : World) (h0 : -1 ≤ x) (h1 : x ≤ 59) : Calls Try.prog 69 #[.agg (arrB 64 fun i => fcell b 6 i), .int .i64 0, .int .i64 x] w fun e w' => e = .returned (.int .i64 (cR (sB b) 0 (x + 1).toNat)) ∧ Below w.heap.size w w' := by
  have h := size_any (fun i => fcell b 6 i) (x + 1).toNat w (by omega)
  have e := cR_set b 0 (sB b) (x + 1).toNat (by decide) rfl (by show (((x + 1).toNat : Nat) : Int) ≤ 59 + 1; omega) (fun _ => rfl)
  simp only [Nat.mul_zero, Nat.zero_add] at e
  rw [show (((x + 1).toNat : Nat) : Int) - 1 = x by omega, e] at h
  exact h
set_option maxHeartbeats 8000000 in
set_option maxRecDepth 100000 in
theorem part_any (b : SB) (s : Int) (w : World) (s0 : 0 ≤ s) (s1 : s ≤ 86400) : Calls Try.prog 45 #[.agg (fv b), .int .i64 s] w fun e w' => e = .returned (.int .i64 (pT b s)) ∧ Below w.heap.size w w' := by
  have hI := Aside0.mk ((Blk.nil w).alloc (fv b) 32)
  have HS := Aside0.mk (And.intro s0 s1)
  have t1 : Int.tdiv s 3600 = s / 3600 := Int.tdiv_eq_ediv_of_nonneg s0
  have t2 : Int.tdiv s 60 = s / 60 := Int.tdiv_eq_ediv_of_nonneg s0
  have t3 : Int.tmod s 60 = s % 60 := Int.tmod_eq_emod_of_nonneg s0
  have t4 : Int.tmod (s / 60) 60 = s / 60 % 60 := Int.tmod_eq_emod_of_nonneg (by omega)
  have u1 : wrap64 (s / 3600) = s / 3600 := w64_in _ (by omega) (by omega)
  have u2 : wrap64 (s / 60) = s / 60 := w64_in _ (by omega) (by omega)
  obtain ⟨KK, hKK⟩ : ∃ KK, KK = min (s / 3600) 24 := ⟨_, rfl⟩
  have m1 : (if 24 < s / 3600 then 24 else s / 3600) = KK := by rw [hKK]; split <;> omega
  obtain ⟨A, hA⟩ : ∃ A, A = cR (hB b) 0 (min (s / 3600) 24).toNat := ⟨_, rfl⟩
  obtain ⟨B, hB'⟩ : ∃ B, B = cR (iB b) 0 60 := ⟨_, rfl⟩
  obtain ⟨C, hC'⟩ : ∃ C, C = cR (sB b) 0 60 := ⟨_, rfl⟩
  obtain ⟨D, hD'⟩ : ∃ D, D = cR (iB b) 0 (s / 60 % 60).toNat := ⟨_, rfl⟩
  obtain ⟨E, hE'⟩ : ∃ E, E = cR (sB b) 0 (s % 60).toNat := ⟨_, rfl⟩
  have hpt : pT b s = A * B * C + (if s / 3600 < 24 ∧ hB b (s / 3600) = true then D * C + (if iB b (s / 60 % 60) = true then E else 0) else 0) := by rw [hA, hB', hC', hD', hE']; rfl
  rw [hpt]
  have CH : Aside0 (∀ w, Calls Try.prog 69 #[.agg (arrB 64 fun i => fcell b 6 (128 + i)), .int .i64 0, .int .i64 (KK - 1)] w fun e w' => e = .returned (.int .i64 A) ∧ Below w.heap.size w w') := ⟨fun w => by
    have := sizeH b (KK - 1) w (by omega) (by omega)
    rwa [show KK - 1 + 1 = min (s / 3600) 24 by omega, ← hA] at this⟩
  have CI : Aside0 (∀ w, Calls Try.prog 69 #[.agg (arrB 64 fun i => fcell b 6 (64 + i)), .int .i64 0, .int .i64 59] w fun e w' => e = .returned (.int .i64 B) ∧ Below w.heap.size w w') := ⟨fun w => by rw [hB']; exact sizeI b 59 w (by decide) (by decide)⟩
  have CS : Aside0 (∀ w, Calls Try.prog 69 #[.agg (arrB 64 fun i => fcell b 6 i), .int .i64 0, .int .i64 59] w fun e w' => e = .returned (.int .i64 C) ∧ Below w.heap.size w w') := ⟨fun w => by rw [hC']; exact sizeS b 59 w (by decide) (by decide)⟩
  have CD : Aside0 (∀ w, Calls Try.prog 69 #[.agg (arrB 64 fun i => fcell b 6 (64 + i)), .int .i64 0, .int .i64 (s / 60 % 60 - 1)] w fun e w' => e = .returned (.int .i64 D) ∧ Below w.heap.size w w') := ⟨fun w => by
    have := sizeI b (s / 60 % 60 - 1) w (by omega) (by omega)
    rwa [show s / 60 % 60 - 1 + 1 = s / 60 % 60 by omega, ← hD'] at this⟩
  have CE : Aside0 (∀ w, Calls Try.prog 69 #[.agg (arrB 64 fun i => fcell b 6 i), .int .i64 0, .int .i64 (s % 60 - 1)] w fun e w' => e = .returned (.int .i64 E) ∧ Below w.heap.size w w') := ⟨fun w => by
    have := sizeS b (s % 60 - 1) w (by omega) (by omega)
    rwa [show s % 60 - 1 + 1 = s % 60 by omega, ← hE'] at this⟩
  have bA := cR_bd (hB b) 0 (min (s / 3600) 24).toNat
  have bB := cR_bd (iB b) 0 60
  have bC := cR_bd (sB b) 0 60
  have bD := cR_bd (iB b) 0 (s / 60 % 60).toNat
  have bE := cR_bd (sB b) 0 (s % 60).toNat
  rw [← hA] at bA
  rw [← hB'] at bB
  rw [← hC'] at bC
  rw [← hD'] at bD
  rw [← hE'] at bE
  have p1 := mul_bd bA.1 (show A ≤ 24 by omega) bB.1 (show B ≤ 60 from bB.2)
  have p2 := mul_bd p1.1 p1.2 bC.1 (show C ≤ 60 from bC.2)
  have p3 := mul_bd bD.1 (show D ≤ 60 by omega) bC.1 (show C ≤ 60 from bC.2)
  have m2 : IntKind.i64.wrap (KK - 1) = KK - 1 := by rw [i64_w]; exact w64_in _ (by omega) (by omega)
  have m3 : IntKind.i64.wrap (A * B) = A * B := by rw [i64_w]; exact w64_in _ (by omega) (by omega)
  have m4 : IntKind.i64.wrap (A * B * C) = A * B * C := by rw [i64_w]; exact w64_in _ (by omega) (by omega)
  have m5 : wrap64 (s / 60 % 60 - 1) = s / 60 % 60 - 1 := w64_in _ (by omega) (by omega)
  have m6 : wrap64 (D * C) = D * C := w64_in _ (by omega) (by omega)
  have m7 : wrap64 (A * B * C + D * C) = A * B * C + D * C := w64_in _ (by omega) (by omega)
  have m8 : wrap64 (s % 60 - 1) = s % 60 - 1 := w64_in _ (by omega) (by omega)
  have m9 : wrap64 (A * B * C + D * C + E) = A * B * C + D * C + E := w64_in _ (by omega) (by omega)
  have i1 : 0 ≤ s / 3600 := by omega
  have i2 : s / 3600 < 63 := by omega
  have i3 : 0 ≤ s / 60 % 60 := by omega
  have i4 : s / 60 % 60 < 63 := by omega
  clear p1 p2 p3 bA bB bC bD bE hpt hA hB' hC' hD' hE' hKK
  obtain ⟨q1, hq1⟩ : ∃ q, q = hB b (s / 3600) := ⟨_, rfl⟩
  obtain ⟨q2, hq2⟩ : ∃ q, q = iB b (s / 60 % 60) := ⟨_, rfl⟩
  have hHF : Aside0 (s / 3600 < 24 → ∀ w' : World, w'.heap[w.heap.size]? = some (.cells (fv b) 32 (0, 0)) → w'.cell? ⟨w.heap.size, 129 + (s / 3600).toNat, none⟩ = some (.bool q1)) := ⟨fun hh w' h => by
    rw [hq1]
    have := fv_cell (w := w) (b := b) h 2 (s / 3600) (by decide) (by show (0 : Int) ≤ s / 3600; omega) (by show s / 3600 ≤ (23 : Int); omega)
    rwa [show 64 * 2 + 1 + (s / 3600).toNat = 129 + (s / 3600).toNat by omega] at this⟩
  have hIF : Aside0 (∀ w' : World, w'.heap[w.heap.size]? = some (.cells (fv b) 32 (0, 0)) → w'.cell? ⟨w.heap.size, 65 + (s / 60 % 60).toNat, none⟩ = some (.bool q2)) := ⟨fun w' h => by
    rw [hq2]
    have := fv_cell (w := w) (b := b) h 1 (s / 60 % 60) (by decide) (by show (0 : Int) ≤ s / 60 % 60; omega) (by show s / 60 % 60 ≤ (59 : Int); omega)
    rwa [show 64 * 1 + 1 + (s / 60 % 60).toNat = 65 + (s / 60 % 60).toNat by omega] at this⟩
  rw [← hq1, ← hq2]
  clear hq1 hq2
  obtain ⟨res, hres⟩ : ∃ r, r = A * B * C + (if s / 3600 < 24 ∧ q1 = true then D * C + (if q2 = true then E else 0) else 0) := ⟨_, rfl⟩
  rw [← hres]
  have HRES := Aside0.mk hres
  clear hres
  clear s0 s1
  go_enter Try.func45, Try.ntmps45
  go_wp2_with (first | (refine wpList_load_at rfl 30 (.tmp 17) rfl w.heap.size 0 384 64 (fcell b 6) rfl 32 (0, 0) _ (hI.out.get 0 rfl) (by decide) Try.underlying30 rfl size30 ?_) | (go_at_call 69; (with_reducible refine (CS.out _).mono ?_); rintro e w9 ⟨rfl, hb⟩; have hI2 := Aside0.mk (hI.out.below hb); clear hI hb; have hI := hI2; clear hI2))
  refine start_ (n := 13) (S := Blk w [(w.heap.size, fv b, 32)]) (ds := []) #[false, false, false, false, false, false, false, false, false, false, false, false, false] (by kernel_rfl) rfl rfl (hI.out.drew) (fun hHeld => ?_)
  have hI2 := Aside0.mk hI.out.drew
  clear hI
  have hI := hI2
  clear hI2
  generalize hwd : World.drew _ = wdr at hI hHeld ⊢
  clear hwd
  refine pure_ (i := 0) (N := (some 20)) (v := ?_) (a' := ?_) #[true, false, false, false, false, false, false, false, false, false, false, false, false] rfl rfl (by kernel_rfl) (fun _ _ _ h => h) (Or.inl ⟨by rfl, ?_⟩) ?_ ?_
  rotate_left
  · intro w'
    go_simp
    with_reducible rfl
  rotate_left
  · simp only [Act.put, List.setIfInBounds_toArray, List.set_cons_zero, List.set_cons_succ, i64_w, i32_w]
    rfl
  refine take_ (i := 1) (N := (some 21)) (v := ?_) (a' := ?_) #[true, true, false, false, false, false, false, false, false, false, false, false, false] rfl rfl (by kernel_rfl) (fun _ _ _ h => h) (Or.inl ⟨by rfl, ?_⟩) hHeld ?_ ?_
  rotate_left
  · intro w' hS
    refine exec_load_at 30 (.tmp 20) ?_ w.heap.size 128 384 64 (fcell b 6) ?_ 32 _ (hS.get 0 rfl) (by decide) Try.underlying30 rfl size30
    · rfl
    · rfl
  rotate_left
  · simp only [Act.put, List.setIfInBounds_toArray, List.set_cons_zero, List.set_cons_succ, i64_w, i32_w]
    rfl
  refine pure_ (i := 2) (N := (some 22)) (v := ?_) (a' := ?_) #[true, true, true, false, false, false, false, false, false, false, false, false, false] rfl rfl (by kernel_rfl) (fun _ _ _ h => h) (Or.inl ⟨by rfl, ?_⟩) ?_ ?_
  rotate_left
  · intro w'
    go_simp
    with_reducible rfl
  rotate_left
  · simp only [Act.put, List.setIfInBounds_toArray, List.set_cons_zero, List.set_cons_succ, i64_w, i32_w]
    rfl
  refine pure_ (i := 3) (N := (some 23)) (v := ?_) (a' := ?_) #[true, true, true, true, false, false, false, false, false, false, false, false, false] rfl rfl (by kernel_rfl) (fun _ _ _ h => h) (Or.inl ⟨by rfl, ?_⟩) ?_ ?_
  rotate_left
  · intro w'
    go_simp
    with_reducible rfl
  rotate_left
  · simp only [Act.put, List.setIfInBounds_toArray, List.set_cons_zero, List.set_cons_succ, i64_w, i32_w]
    rfl
  refine pure_ (i := 4) (N := (some 24)) (v := ?_) (a' := ?_) #[true, true, true, true, true, false, false, false, false, false, false, false, false] rfl rfl (by kernel_rfl) (fun _ _ _ h => h) (Or.inl ⟨by rfl, ?_⟩) ?_ ?_
  rotate_left
  · intro w'
    go_simp
    with_reducible rfl
  rotate_left
  · simp only [Act.put, List.setIfInBounds_toArray, List.set_cons_zero, List.set_cons_succ, i64_w, i32_w]
    rfl
  refine pure_ (i := 6) (N := (some 26)) (v := ?_) (a' := ?_) #[true, true, true, true, true, false, true, false, false, false, false, false, false] rfl rfl (by kernel_rfl) (fun _ _ _ h => h) (Or.inl ⟨by rfl, ?_⟩) ?_ ?_
  rotate_left
  · intro w'
    go_simp
    with_reducible rfl
  rotate_left
  · simp only [Act.put, List.setIfInBounds_toArray, List.set_cons_zero, List.set_cons_succ, i64_w, i32_w]
    rfl
  refine take_ (i := 7) (N := (some 27)) (v := ?_) (a' := ?_) #[true, true, true, true, true, false, true, true, false, false, false, false, false] rfl rfl (by kernel_rfl) (fun _ _ _ h => h) (Or.inl ⟨by rfl, ?_⟩) hHeld ?_ ?_
  rotate_left
  · intro w' hS
    refine exec_load_at 30 (.tmp 26) ?_ w.heap.size 64 384 64 (fcell b 6) ?_ 32 _ (hS.get 0 rfl) (by decide) Try.underlying30 rfl size30
    · rfl
    · rfl
  rotate_left
  · simp only [Act.put, List.setIfInBounds_toArray, List.set_cons_zero, List.set_cons_succ, i64_w, i32_w]
    rfl
  refine pure_ (i := 10) (N := (some 30)) (v := ?_) (a' := ?_) #[true, true, true, true, true, false, true, true, false, false, true, false, false] rfl rfl (by kernel_rfl) (fun _ _ _ h => h) (Or.inl ⟨by rfl, ?_⟩) ?_ ?_
  rotate_left
  · intro w'
    go_simp
    with_reducible rfl
  rotate_left
  · simp only [Act.put, List.setIfInBounds_toArray, List.set_cons_zero, List.set_cons_succ, i64_w, i32_w]
    rfl
  refine one_ (i := 5) (N := (some 25)) #[true, true, true, true, true, true, true, true, false, false, true, false, false] rfl rfl (by kernel_rfl) (by decide) (fun K hK => ?_)
  refine goes_ Try.func69 (by kernel_rfl) rfl #[.agg (arrB 64 fun i => fcell b 6 (128 + i)), .int .i64 0, .int .i64 (KK - 1)] (by rfl) rfl rfl (by (try simp only [List.map_toArray, List.map_cons, List.map_nil]); first | done | rfl) ?_
  refine (CH.out _).mono ?_
  rintro e w5 ⟨rfl, hb⟩
  refine ⟨_, rfl, ?_⟩
  have hI2 := Aside0.mk (hI.out.below hb)
  clear hI hb
  have hI := hI2
  clear hI2
  refine hK.out _ _ (hI.out) (fun hHeld => ?_)
  clear hK K
  refine norm_ (a' := ?_) ?_ ?_
  rotate_left
  · show Act.put _ (some 25) _ = _
    simp only [Act.put, List.setIfInBounds_toArray, List.set_cons_zero, List.set_cons_succ, i64_w, i32_w]
    rfl
  refine one_ (i := 8) (N := (some 28)) #[true, true, true, true, true, true, true, true, true, false, true, false, false] rfl rfl (by kernel_rfl) (by decide) (fun K hK => ?_)
  refine goes_ Try.func69 (by kernel_rfl) rfl #[.agg (arrB 64 fun i => fcell b 6 (64 + i)), .int .i64 0, .int .i64 59] (by rfl) rfl rfl (by (try simp only [List.map_toArray, List.map_cons, List.map_nil]); first | done | rfl) ?_
  refine (CI.out _).mono ?_
  rintro e w8 ⟨rfl, hb⟩
  refine ⟨_, rfl, ?_⟩
  have hI2 := Aside0.mk (hI.out.below hb)
  clear hI hb
  have hI := hI2
  clear hI2
  refine hK.out _ _ (hI.out) (fun hHeld => ?_)
  clear hK K
  refine norm_ (a' := ?_) ?_ ?_
  rotate_left
  · show Act.put _ (some 28) _ = _
    simp only [Act.put, List.setIfInBounds_toArray, List.set_cons_zero, List.set_cons_succ, i64_w, i32_w]
    rfl
  refine pure_ (i := 9) (N := (some 29)) (v := ?_) (a' := ?_) #[true, true, true, true, true, true, true, true, true, true, true, false, false] rfl rfl (by kernel_rfl) (fun _ _ _ h => h) (Or.inl ⟨by rfl, ?_⟩) ?_ ?_
  rotate_left
  · intro w'
    go_simp
    with_reducible rfl
  rotate_left
  · simp only [Act.put, List.setIfInBounds_toArray, List.set_cons_zero, List.set_cons_succ, i64_w, i32_w]
    rfl
  refine pure_ (i := 11) (N := (some 31)) (v := ?_) (a' := ?_) #[true, true, true, true, true, true, true, true, true, true, true, true, false] rfl rfl (by kernel_rfl) (fun _ _ _ h => h) (Or.inl ⟨by rfl, ?_⟩) ?_ ?_
  rotate_left
  · intro w'
    go_simp
    with_reducible rfl
  rotate_left
  · simp only [Act.put, List.setIfInBounds_toArray, List.set_cons_zero, List.set_cons_succ, i64_w, i32_w]
    rfl
  refine pure_ (i := 12) (N := (some 9)) (v := ?_) (a' := ?_) #[true, true, true, true, true, true, true, true, true, true, true, true, true] rfl rfl (by kernel_rfl) (fun _ _ _ h => h) (Or.inl ⟨by rfl, ?_⟩) ?_ ?_
  rotate_left
  · intro w'
    go_simp
    with_reducible rfl
  rotate_left
  · simp only [Act.put, List.setIfInBounds_toArray, List.set_cons_zero, List.set_cons_succ, i64_w, i32_w]
    rfl
  refine done_ (by kernel_rfl) ?_
  by_cases c : s / 3600 < 24
  · have e1 : decide (s / 3600 < 24) = true := decide_eq_true c
    have kH := hHF.out c w8 (hI.out.get 0 rfl)
    cases q1
    · obtain rfl : res = A * B * C := by rw [HRES.out]; simp [c, Int.add_assoc]
      clear HRES
      go_wp2_with fail
      go_ret
      first | exact ⟨rfl, hI.out.B⟩ | exact ⟨congrArg (fun z => Ending.returned (.int .i64 z)) m7, hI.out.B⟩ | exact ⟨congrArg (fun z => Ending.returned (.int .i64 z)) m9, hI.out.B⟩
    · cases q2
      · obtain rfl : res = A * B * C + D * C := by rw [HRES.out]; simp [c, Int.add_assoc]
        clear HRES
        go_wp2_with (first | (refine wpList_load_at rfl 30 (.tmp 42) rfl w.heap.size 64 384 64 (fcell b 6) rfl 32 (0, 0) _ (hI.out.get 0 rfl) (by decide) Try.underlying30 rfl size30 ?_) | (go_at_call 69; (with_reducible refine (CD.out _).mono ?_); rintro e w9 ⟨rfl, hb⟩; have hI2 := Aside0.mk (hI.out.below hb); clear hI hb; have hI := hI2; clear hI2; have kI := hIF.out w9 (hI.out.get 0 rfl)))
        go_ret
        first | exact ⟨rfl, hI.out.B⟩ | exact ⟨congrArg (fun z => Ending.returned (.int .i64 z)) m7, hI.out.B⟩ | exact ⟨congrArg (fun z => Ending.returned (.int .i64 z)) m9, hI.out.B⟩
      · obtain rfl : res = A * B * C + D * C + E := by rw [HRES.out]; simp [c, Int.add_assoc]
        clear HRES
        go_wp2_with (first | (refine wpList_load_at rfl 30 (.tmp 42) rfl w.heap.size 64 384 64 (fcell b 6) rfl 32 (0, 0) _ (hI.out.get 0 rfl) (by decide) Try.underlying30 rfl size30 ?_) | (refine wpList_load_at rfl 30 (.tmp 56) rfl w.heap.size 0 384 64 (fcell b 6) rfl 32 (0, 0) _ (hI.out.get 0 rfl) (by decide) Try.underlying30 rfl size30 ?_) | (first | (go_at_call 69; (with_reducible refine (CD.out _).mono ?_); rintro e w9 ⟨rfl, hb⟩; have hI2 := Aside0.mk (hI.out.below hb); clear hI hb; have hI := hI2; clear hI2; have kI := hIF.out w9 (hI.out.get 0 rfl)) | (go_at_call 69; (with_reducible refine (CE.out _).mono ?_); rintro e w9 ⟨rfl, hb⟩; have hI2 := Aside0.mk (hI.out.below hb); clear hI hb; have hI := hI2; clear hI2)))
        go_ret
        first | exact ⟨rfl, hI.out.B⟩ | exact ⟨congrArg (fun z => Ending.returned (.int .i64 z)) m7, hI.out.B⟩ | exact ⟨congrArg (fun z => Ending.returned (.int .i64 z)) m9, hI.out.B⟩
  · obtain rfl : res = A * B * C := by rw [HRES.out]; simp [c, Int.add_assoc]
    clear HRES
    have e1 : decide (s / 3600 < 24) = false := decide_eq_false c
    go_wp2_with fail
    go_ret
    first | exact ⟨rfl, hI.out.B⟩ | exact ⟨congrArg (fun z => Ending.returned (.int .i64 z)) m7, hI.out.B⟩ | exact ⟨congrArg (fun z => Ending.returned (.int .i64 z)) m9, hI.out.B⟩
end Go.Proofs.Ytlgdaegaahnkbaa.Tm
