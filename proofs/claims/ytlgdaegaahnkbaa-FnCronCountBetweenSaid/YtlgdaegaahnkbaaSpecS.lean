/- The reference's count of the seconds that fit, by hand: CronCount (printed by gen_ss.py). -/
import Derived.Test.YtlgdaegaahnkbaaSpecR
namespace Go.Proofs.Ytlgdaegaahnkbaa.Tm
open Go Go.RowKit Cal MC
open Go.Proofs.YtlgdaegaahnkbaaW.PrintWords Go.Proofs.YtlgdaegaahnkbaaW.PrintLast Go.Proofs.YtlgdaegaahnkbaaW.PrintMore
set_option linter.unusedVariables false
set_option linter.unusedSimpArgs false
/-- How far the count has come at the beginning of day n. -/
def upTo (a z n : Int) : Int := min (max (86400 * n) a) z
theorem upTo_lo {a z n : Int} (h : a ≤ z) (h1 : 86400 * n < z) : upTo a z n = 86400 * n + max (a - 86400 * n) 0 := by unfold upTo; omega
theorem upTo_hi {a z n : Int} (h : a ≤ z) (h1 : 86400 * n < z) (h2 : a < 86400 * (n + 1)) : upTo a z (n + 1) = 86400 * n + min (z - 86400 * n) 86400 := by unfold upTo; omega
theorem upTo_step (b : SB) {a z n : Int} (h : a ≤ z) (h1 : 86400 * n < z) (h2 : a < 86400 * (n + 1)) :
    cR (fB b) a (upTo a z (n + 1) - a).toNat = cR (fB b) a (upTo a z n - a).toNat + (if dB b n = true then pT b (min (z - 86400 * n) 86400) - pT b (max (a - 86400 * n) 0) else 0) := by
  rw [← day_part b n (max (a - 86400 * n) 0) (min (z - 86400 * n) 86400) (by omega) (by omega) (by omega), upTo_hi h h1 h2, upTo_lo h h1]
  have e := cR_add (fB b) a (86400 * n + max (a - 86400 * n) 0 - a).toNat (min (z - 86400 * n) 86400 - max (a - 86400 * n) 0).toNat
  rw [show a + (((86400 * n + max (a - 86400 * n) 0 - a).toNat : Nat) : Int) = 86400 * n + max (a - 86400 * n) 0 by omega, show (86400 * n + max (a - 86400 * n) 0 - a).toNat + (min (z - 86400 * n) 86400 - max (a - 86400 * n) 0).toNat = (86400 * n + min (z - 86400 * n) 86400 - a).toNat by omega] at e
  exact e
set_option maxHeartbeats 1500000 in
set_option maxRecDepth 100000 in
theorem count_any (b : SB) (from_ til : Int) (w : World) (f0 : -62135596800 ≤ from_) (f1 : til ≤ 253402300800) (f2 : from_ ≤ til) :
    Calls Try.prog 24 #[.agg (fv b), .int .i64 from_, .int .i64 til] w fun e w' => e = .returned (.int .i64 (cR (fB b) from_ (til - from_).toNat)) ∧ Below w.heap.size w w' := by
  have size32v : Aside0 ((Try.prog.info? 32).map (·.size) = some (fv b).size) := ⟨by unfold fv; rw [arrB_size]; exact size32⟩
  have hI := Aside0.mk ((Blk.nil w).alloc (fv b) 32)
  obtain ⟨n0, hn0⟩ : ∃ n0, n0 = from_ / 86400 := ⟨_, rfl⟩
  obtain ⟨n9, hn9⟩ : ∃ n9, n9 = (til - 1) / 86400 + 1 := ⟨_, rfl⟩
  obtain ⟨X, hX⟩ : ∃ X : Int → Int, X = upTo from_ til := ⟨_, rfl⟩
  have CF : Aside0 (∀ w, Calls Try.prog 41 #[.int .i64 from_, .int .i64 86400] w fun e w' => e = .returned (.int .i64 n0) ∧ Below w.heap.size w w') := ⟨fun w => by rw [hn0]; exact floorDay_c from_ w (by omega) (by omega)⟩
  have HD : Aside0 (-719162 ≤ n0 ∧ n0 ≤ 2932896 + 1 ∧ n9 ≤ 2932897 + 1 ∧ n0 ≤ n9 ∧ 86400 * n0 ≤ from_ ∧ from_ < 86400 * n0 + 86400 ∧ til ≤ 86400 * n9 ∧ 86400 * n9 - 86400 < til) := ⟨by omega⟩
  have HB := Aside0.mk (And.intro f0 (And.intro f1 f2))
  have HX0 : Aside0 (cR (fB b) from_ (X n0 - from_).toNat = 0) := ⟨by
    rw [hX, show (upTo from_ til n0 - from_).toNat = 0 by unfold upTo; omega]; rfl⟩
  have HXE := Aside0.mk hX
  clear f0 f1 f2 hn0 hn9 hX
  go_enter Try.func24, Try.ntmps24
  go_wp2_with (first | (go_at_call 41; (with_reducible refine (CF.out _).mono ?_); rintro e w3 ⟨rfl, hb⟩; have hI2 := Aside0.mk (hI.out.below hb); clear hI hb; have hI := hI2; clear hI2) | (go_at_call 42; (with_reducible refine (dateOf_c n0 _ HD.out.1 (by have := HD.out; omega)).mono ?_); rintro e w4 ⟨rfl, hb⟩; have hI2 := Aside0.mk (hI.out.below hb); clear hI hb; have hI := hI2; clear hI2))
  go_loopg [7, 8, 9] (n9 - n0).toNat (fun gk s7 s8 s9 wr => ∃ (n : Int) (g : Nat), s7 = .int .i64 (cR (fB b) from_ (X n - from_).toNat) ∧ s8 = .int .i64 n ∧ s9 = .pointer (some ⟨g, 0, none⟩) ∧ Aside0 (Blk w [(g, #[.int .i64 (yr n), .int .i64 (mo n), .int .i64 (dy n)], 80), (w.heap.size, fv b, 32)] wr) ∧ Aside0 (n0 ≤ n ∧ n ≤ n9) ∧ Aside0 ((n9 - n).toNat ≤ gk))
  case atStart => exact ⟨n0, w4.heap.size, by rw [HX0.out], by first | rfl | go_num, rfl, ⟨hI.out.alloc _ 80⟩, ⟨by omega, by have := HD.out; omega⟩, ⟨Nat.le_refl _⟩⟩
  case round =>
    clear hI
    obtain ⟨n, g, rfl, rfl, rfl, hI, HA, HM⟩ := hrel
    clear CF HX0
    have e3 : wrap64 (86400 * n) = 86400 * n := w64_in _ (by have := HA.out; have := HD.out; omega) (by have := HA.out; have := HD.out; omega)
    by_cases htl : 86400 * n < til
    · have e5 : decide (86400 * n < til) = true := decide_eq_true htl
      go_wp2_with fail
      have hmn := mo_bd n
      have hdn := dy_bd n
      have hmd := md_bd (yr n) (mo n)
      have HN : Aside0 (-719162 ≤ n ∧ n ≤ 2932897 ∧ n < n9 ∧ n0 ≤ n) := ⟨by have := HA.out; have := HD.out; have := HB.out; omega⟩
      obtain ⟨qm, hqm⟩ : ∃ q, q = bitOf b.m (mo n) := ⟨_, rfl⟩
      have HQM := Aside0.mk hqm
      have hFM : Aside0 (∀ w' : World, w'.heap[w.heap.size]? = some (.cells (fv b) 32 (0, 0)) → w'.cell? ⟨w.heap.size, 257 + (mo n).toNat, none⟩ = some (.bool qm)) := ⟨fun w' h => by
        rw [hqm]
        have := fv_cell (w := w) (b := b) h 4 (mo n) (by decide) (by show (1 : Int) ≤ mo n; omega) (by show mo n ≤ (12 : Int); omega)
        rwa [show 64 * 4 + 1 + (mo n).toNat = 257 + (mo n).toNat by omega] at this⟩
      obtain ⟨qd, hqd⟩ : ∃ q, q = dayOk b.d b.w n := ⟨_, rfl⟩
      have HQD := Aside0.mk hqd
      have hDF : Aside0 (∀ w' : World, Calls Try.prog 38 #[.agg (fv b), .agg #[.int .i64 (yr n), .int .i64 (mo n), .int .i64 (dy n)], .int .i64 (wd n)] w' fun e w'' => e = .returned (.bool qd) ∧ Below w'.heap.size w' w'') := ⟨fun w' => by
        rw [hqd]
        exact dayFits_any b (yr n) (mo n) (dy n) (wd n) w' (by omega) (by omega) (by unfold wd; omega) (by unfold wd; omega)⟩
      have HST := Aside0.mk (upTo_step b (a := from_) (z := til) (n := n) HB.out.2.2 htl (by have := HD.out; have := HA.out; omega))
      rw [show dB b n = (bitOf b.m (mo n) && dayOk b.d b.w n) from rfl, ← HQM.out, ← HQD.out] at HST
      have e6 : wrap64 (n + 1) = n + 1 := w64_in _ (by have := HN.out; omega) (by have := HN.out; omega)
      clear hqm hqd hmd hdn
      cases qm
      · refine start_ (n := 13) (S := Blk w [(g, #[.int .i64 (yr n), .int .i64 (mo n), .int .i64 (dy n)], 80), (w.heap.size, fv b, 32)]) (ds := []) #[false, false, false, false, false, false, false, false, false, false, false, false, false] (by kernel_rfl) rfl rfl (hI.out.drew) (fun hHeld => ?_)
        refine pure_ (i := 0) (N := (some 20)) (v := ?_) (a' := ?_) #[true, false, false, false, false, false, false, false, false, false, false, false, false] rfl rfl (by kernel_rfl) (fun _ _ _ h => h) (Or.inl ⟨by rfl, ?_⟩) ?_ ?_
        rotate_left
        · intro w'
          go_simp
          with_reducible rfl
        rotate_left
        · simp only [Act.put, List.setIfInBounds_toArray, List.set_cons_zero, List.set_cons_succ, i64_w, i32_w]
          rfl
        refine take_ (i := 1) (N := (some 21)) (v := ?_) (a' := ?_) #[true, true, false, false, false, false, false, false, false, false, false, false, false] rfl rfl (by kernel_rfl) (fun _ _ _ h => h) (Or.inl ⟨by rfl, ?_⟩) hHeld ?_ ?_
        rotate_left
        · intro w' hS
          have cc := (hS.cell 0 rfl 1).trans (show _ = some (Value.int .i64 (mo n)) from rfl)
          go_simp
          with_reducible rfl
        rotate_left
        · simp only [Act.put, List.setIfInBounds_toArray, List.set_cons_zero, List.set_cons_succ, i64_w, i32_w]
          rfl
        refine pure_ (i := 2) (N := (some 22)) (v := ?_) (a' := ?_) #[true, true, true, false, false, false, false, false, false, false, false, false, false] rfl rfl (by kernel_rfl) (fun _ _ _ h => h) (Or.inl ⟨by rfl, ?_⟩) ?_ ?_
        rotate_left
        · intro w'
          go_simp
          with_reducible rfl
        rotate_left
        · simp only [Act.put, List.setIfInBounds_toArray, List.set_cons_zero, List.set_cons_succ, i64_w, i32_w]
          rfl
        refine pure_ (i := 3) (N := (some 23)) (v := ?_) (a' := ?_) #[true, true, true, true, false, false, false, false, false, false, false, false, false] rfl rfl (by kernel_rfl) (fun _ _ _ h => h) (Or.inl ⟨by rfl, ?_⟩) ?_ ?_
        rotate_left
        · intro w'
          go_simp
          with_reducible rfl
        rotate_left
        · simp only [Act.put, List.setIfInBounds_toArray, List.set_cons_zero, List.set_cons_succ, i64_w, i32_w]
          rfl
        refine pure_ (i := 4) (N := (some 24)) (v := ?_) (a' := ?_) #[true, true, true, true, true, false, false, false, false, false, false, false, false] rfl rfl (by kernel_rfl) (fun _ _ _ h => h) (Or.inl ⟨by rfl, ?_⟩) ?_ ?_
        rotate_left
        · intro w'
          go_simp
          rw [if_pos (by omega)]
        rotate_left
        · simp only [Act.put, List.setIfInBounds_toArray, List.set_cons_zero, List.set_cons_succ, i64_w, i32_w]
          rfl
        refine take_ (i := 5) (N := (some 25)) (v := ?_) (a' := ?_) #[true, true, true, true, true, true, false, false, false, false, false, false, false] rfl rfl (by kernel_rfl) (fun _ _ _ h => h) (Or.inl ⟨by rfl, ?_⟩) hHeld ?_ ?_
        rotate_left
        · intro w' hS
          have cc := hFM.out w' (hS.get 1 rfl)
          go_simp
          with_reducible rfl
        rotate_left
        · simp only [Act.put, List.setIfInBounds_toArray, List.set_cons_zero, List.set_cons_succ, i64_w, i32_w]
          rfl
        refine pure_ (i := 6) (N := (some 26)) (v := ?_) (a' := ?_) #[true, true, true, true, true, true, true, false, false, false, false, false, false] rfl rfl (by kernel_rfl) (fun _ _ _ h => h) (Or.inl ⟨by rfl, ?_⟩) ?_ ?_
        rotate_left
        · intro w'
          go_simp
          with_reducible rfl
        rotate_left
        · simp only [Act.put, List.setIfInBounds_toArray, List.set_cons_zero, List.set_cons_succ, i64_w, i32_w]
          rfl
        refine take_ (i := 7) (N := (some 27)) (v := undef) (a' := ?_) #[true, true, true, true, true, true, true, true, false, false, false, false, false] rfl rfl (by kernel_rfl) (fun _ _ _ h => h) (Or.inr ⟨by rfl, rfl⟩) hHeld ?_ ?_
        rotate_left
        · simp only [Act.put, List.setIfInBounds_toArray, List.set_cons_zero, List.set_cons_succ, i64_w, i32_w]
          rfl
        refine take_ (i := 8) (N := (some 28)) (v := undef) (a' := ?_) #[true, true, true, true, true, true, true, true, true, false, false, false, false] rfl rfl (by kernel_rfl) (fun _ _ _ h => h) (Or.inr ⟨by rfl, rfl⟩) hHeld ?_ ?_
        rotate_left
        · simp only [Act.put, List.setIfInBounds_toArray, List.set_cons_zero, List.set_cons_succ, i64_w, i32_w]
          rfl
        refine pure_ (i := 9) (N := (some 29)) (v := undef) (a' := ?_) #[true, true, true, true, true, true, true, true, true, true, false, false, false] rfl rfl (by kernel_rfl) (fun _ _ _ h => h) (Or.inr ⟨by rfl, rfl⟩) ?_ ?_
        rotate_left
        · simp only [Act.put, List.setIfInBounds_toArray, List.set_cons_zero, List.set_cons_succ, i64_w, i32_w]
          rfl
        refine one_ (i := 10) (N := (some 30)) #[true, true, true, true, true, true, true, true, true, true, true, false, false] rfl rfl (by kernel_rfl) (by decide) (fun K hK => ?_)
        refine off_ (by rfl) (hK.out _ _ hHeld (fun hHeld => ?_))
        clear hK K
        refine norm_ (a' := ?_) ?_ ?_
        rotate_left
        · show Act.put _ (some 30) _ = _
          simp only [Act.put, List.setIfInBounds_toArray, List.set_cons_zero, List.set_cons_succ, i64_w, i32_w]
          rfl
        refine one_ (i := 11) (N := (some 31)) #[true, true, true, true, true, true, true, true, true, true, true, true, false] rfl rfl (by kernel_rfl) (by decide) (fun K hK => ?_)
        refine off_ (by rfl) (hK.out _ _ hHeld (fun hHeld => ?_))
        clear hK K
        refine norm_ (a' := ?_) ?_ ?_
        rotate_left
        · show Act.put _ (some 31) _ = _
          simp only [Act.put, List.setIfInBounds_toArray, List.set_cons_zero, List.set_cons_succ, i64_w, i32_w]
          rfl
        refine pure_ (i := 12) (N := (some 32)) (v := ?_) (a' := ?_) #[true, true, true, true, true, true, true, true, true, true, true, true, true] rfl rfl (by kernel_rfl) (fun _ _ _ h => h) (Or.inl ⟨by rfl, ?_⟩) ?_ ?_
        rotate_left
        · intro w'
          go_simp
          with_reducible rfl
        rotate_left
        · simp only [Act.put, List.setIfInBounds_toArray, List.set_cons_zero, List.set_cons_succ, i64_w, i32_w]
          rfl
        refine done_ (by kernel_rfl) ?_
        clear hFM hDF
        have hI2 := Aside0.mk hI.out.drew
        clear hI hHeld
        have hI := hI2
        clear hI2
        generalize hw8 : World.drew _ = w8 at hI ⊢
        clear hw8
        have HX : Aside0 (cR (fB b) from_ (X (n + 1) - from_).toNat = cR (fB b) from_ (X n - from_).toNat) := ⟨by have h := HST.out; simp only [Bool.false_and, Bool.and_false, Bool.false_eq_true, if_false, Int.add_zero] at h; rw [show X = upTo from_ til from HXE.out]; exact h⟩
        go_wp2_with (first | ((with_reducible refine wpList_isCons ?_); refine wpList_load_row rfl 80 (.tmp 9) rfl g rfl 80 _ (0, 0) _ (hI.out.get 0 rfl) Try.underlying80 rfl size80 ?_) | (go_at_call 43; (with_reducible refine (tomorrow_c n _ HN.out.1 (by have := HN.out; omega)).mono ?_); rintro e w72 ⟨rfl, hb⟩; have hI2 := Aside0.mk ((hI.out.alloc #[.int .i64 (yr n), .int .i64 (mo n), .int .i64 (dy n)] 80).drop1.below hb); clear hI hb; have hI := hI2; clear hI2) | ((with_reducible refine wpList_isCons ?_); refine wpList_store_row rfl 80 (.tmp 9) (.tmp 19) rfl w8.heap.size #[.int .i64 (yr (n + 1)), .int .i64 (mo (n + 1)), .int .i64 (dy (n + 1))] rfl rfl 80 _ (hI.out.get 0 rfl) size80 (sz3 _ _ _ _ _ _) (one3 _ _ _) ?_; have hI2 := Aside0.mk (hI.out.row #[.int .i64 (yr (n + 1)), .int .i64 (mo (n + 1)), .int .i64 (dy (n + 1))]); clear hI; have hI := hI2; clear hI2; generalize hg3 : World.setRow _ _ _ = w73 at hI ⊢; clear hg3))
        go_roundg (n9 - (n + 1)).toNat
        case measure => have := HN.out; have := HM.out; omega
        case rel => exact ⟨n + 1, w8.heap.size, by rw [HX.out], by first | rfl | (congr 1; omega) | go_num, rfl, hI, ⟨by have := HN.out; omega, by have := HN.out; omega⟩, ⟨Nat.le_refl _⟩⟩
      · refine start_ (n := 13) (S := Blk w [(g, #[.int .i64 (yr n), .int .i64 (mo n), .int .i64 (dy n)], 80), (w.heap.size, fv b, 32)]) (ds := []) #[false, false, false, false, false, false, false, false, false, false, false, false, false] (by kernel_rfl) rfl rfl (hI.out.drew) (fun hHeld => ?_)
        refine pure_ (i := 0) (N := (some 20)) (v := ?_) (a' := ?_) #[true, false, false, false, false, false, false, false, false, false, false, false, false] rfl rfl (by kernel_rfl) (fun _ _ _ h => h) (Or.inl ⟨by rfl, ?_⟩) ?_ ?_
        rotate_left
        · intro w'
          go_simp
          with_reducible rfl
        rotate_left
        · simp only [Act.put, List.setIfInBounds_toArray, List.set_cons_zero, List.set_cons_succ, i64_w, i32_w]
          rfl
        refine take_ (i := 1) (N := (some 21)) (v := ?_) (a' := ?_) #[true, true, false, false, false, false, false, false, false, false, false, false, false] rfl rfl (by kernel_rfl) (fun _ _ _ h => h) (Or.inl ⟨by rfl, ?_⟩) hHeld ?_ ?_
        rotate_left
        · intro w' hS
          have cc := (hS.cell 0 rfl 1).trans (show _ = some (Value.int .i64 (mo n)) from rfl)
          go_simp
          with_reducible rfl
        rotate_left
        · simp only [Act.put, List.setIfInBounds_toArray, List.set_cons_zero, List.set_cons_succ, i64_w, i32_w]
          rfl
        refine pure_ (i := 2) (N := (some 22)) (v := ?_) (a' := ?_) #[true, true, true, false, false, false, false, false, false, false, false, false, false] rfl rfl (by kernel_rfl) (fun _ _ _ h => h) (Or.inl ⟨by rfl, ?_⟩) ?_ ?_
        rotate_left
        · intro w'
          go_simp
          with_reducible rfl
        rotate_left
        · simp only [Act.put, List.setIfInBounds_toArray, List.set_cons_zero, List.set_cons_succ, i64_w, i32_w]
          rfl
        refine pure_ (i := 3) (N := (some 23)) (v := ?_) (a' := ?_) #[true, true, true, true, false, false, false, false, false, false, false, false, false] rfl rfl (by kernel_rfl) (fun _ _ _ h => h) (Or.inl ⟨by rfl, ?_⟩) ?_ ?_
        rotate_left
        · intro w'
          go_simp
          with_reducible rfl
        rotate_left
        · simp only [Act.put, List.setIfInBounds_toArray, List.set_cons_zero, List.set_cons_succ, i64_w, i32_w]
          rfl
        refine pure_ (i := 4) (N := (some 24)) (v := ?_) (a' := ?_) #[true, true, true, true, true, false, false, false, false, false, false, false, false] rfl rfl (by kernel_rfl) (fun _ _ _ h => h) (Or.inl ⟨by rfl, ?_⟩) ?_ ?_
        rotate_left
        · intro w'
          go_simp
          rw [if_pos (by omega)]
        rotate_left
        · simp only [Act.put, List.setIfInBounds_toArray, List.set_cons_zero, List.set_cons_succ, i64_w, i32_w]
          rfl
        refine take_ (i := 5) (N := (some 25)) (v := ?_) (a' := ?_) #[true, true, true, true, true, true, false, false, false, false, false, false, false] rfl rfl (by kernel_rfl) (fun _ _ _ h => h) (Or.inl ⟨by rfl, ?_⟩) hHeld ?_ ?_
        rotate_left
        · intro w' hS
          have cc := hFM.out w' (hS.get 1 rfl)
          go_simp
          with_reducible rfl
        rotate_left
        · simp only [Act.put, List.setIfInBounds_toArray, List.set_cons_zero, List.set_cons_succ, i64_w, i32_w]
          rfl
        refine pure_ (i := 6) (N := (some 26)) (v := ?_) (a' := ?_) #[true, true, true, true, true, true, true, false, false, false, false, false, false] rfl rfl (by kernel_rfl) (fun _ _ _ h => h) (Or.inl ⟨by rfl, ?_⟩) ?_ ?_
        rotate_left
        · intro w'
          go_simp
          with_reducible rfl
        rotate_left
        · simp only [Act.put, List.setIfInBounds_toArray, List.set_cons_zero, List.set_cons_succ, i64_w, i32_w]
          rfl
        refine take_ (i := 7) (N := (some 27)) (v := ?_) (a' := ?_) #[true, true, true, true, true, true, true, true, false, false, false, false, false] rfl rfl (by kernel_rfl) (fun _ _ _ h => h) (Or.inl ⟨by rfl, ?_⟩) hHeld ?_ ?_
        rotate_left
        · intro w' hS
          refine exec_load_row 32 (.tmp 3) ?_ w.heap.size ?_ 32 _ _ (hS.get 1 rfl) Try.underlying32 rfl size32v.out
          · rfl
          · rfl
        rotate_left
        · simp only [Act.put, List.setIfInBounds_toArray, List.set_cons_zero, List.set_cons_succ, i64_w, i32_w]
          rfl
        refine take_ (i := 8) (N := (some 28)) (v := ?_) (a' := ?_) #[true, true, true, true, true, true, true, true, true, false, false, false, false] rfl rfl (by kernel_rfl) (fun _ _ _ h => h) (Or.inl ⟨by rfl, ?_⟩) hHeld ?_ ?_
        rotate_left
        · intro w' hS
          refine exec_load_row 80 (.tmp 9) ?_ g ?_ 80 _ _ (hS.get 0 rfl) Try.underlying80 rfl size80
          · rfl
          · rfl
        rotate_left
        · simp only [Act.put, List.setIfInBounds_toArray, List.set_cons_zero, List.set_cons_succ, i64_w, i32_w]
          rfl
        refine pure_ (i := 9) (N := (some 29)) (v := ?_) (a' := ?_) #[true, true, true, true, true, true, true, true, true, true, false, false, false] rfl rfl (by kernel_rfl) (fun _ _ _ h => h) (Or.inl ⟨by rfl, ?_⟩) ?_ ?_
        rotate_left
        · intro w'
          go_simp
          with_reducible rfl
        rotate_left
        · simp only [Act.put, List.setIfInBounds_toArray, List.set_cons_zero, List.set_cons_succ, i64_w, i32_w]
          rfl
        refine one_ (i := 10) (N := (some 30)) #[true, true, true, true, true, true, true, true, true, true, true, false, false] rfl rfl (by kernel_rfl) (by decide) (fun K hK => ?_)
        refine goes_ Try.func44 (by kernel_rfl) rfl #[.int .i64 n] (by rfl) rfl rfl (by (try simp only [List.map_toArray, List.map_cons, List.map_nil]); first | done | rfl) ?_
        refine (specWeekday_c n _ (by have := HN.out; omega) (by have := HN.out; omega)).mono ?_
        rintro e w10 ⟨rfl, hb⟩
        refine ⟨_, rfl, ?_⟩
        have hI2 := Aside0.mk (hI.out.drew.below hb)
        clear hI hb
        have hI := hI2
        clear hI2
        refine hK.out _ _ (hI.out) (fun hHeld => ?_)
        clear hK K
        refine norm_ (a' := ?_) ?_ ?_
        rotate_left
        · show Act.put _ (some 30) _ = _
          simp only [Act.put, List.setIfInBounds_toArray, List.set_cons_zero, List.set_cons_succ, i64_w, i32_w]
          rfl
        refine one_ (i := 11) (N := (some 31)) #[true, true, true, true, true, true, true, true, true, true, true, true, false] rfl rfl (by kernel_rfl) (by decide) (fun K hK => ?_)
        refine goes_ Try.func38 (by kernel_rfl) rfl #[.agg (fv b), .agg #[.int .i64 (yr n), .int .i64 (mo n), .int .i64 (dy n)], .int .i64 (wd n)] (by rfl) rfl rfl (by (try simp only [List.map_toArray, List.map_cons, List.map_nil]); first | done | rfl) ?_
        refine (hDF.out _).mono ?_
        rintro e w11 ⟨rfl, hb⟩
        refine ⟨_, rfl, ?_⟩
        have hI2 := Aside0.mk (hI.out.below hb)
        clear hI hb
        have hI := hI2
        clear hI2
        refine hK.out _ _ (hI.out) (fun hHeld => ?_)
        clear hK K
        refine norm_ (a' := ?_) ?_ ?_
        rotate_left
        · show Act.put _ (some 31) _ = _
          simp only [Act.put, List.setIfInBounds_toArray, List.set_cons_zero, List.set_cons_succ, i64_w, i32_w]
          rfl
        refine pure_ (i := 12) (N := (some 32)) (v := ?_) (a' := ?_) #[true, true, true, true, true, true, true, true, true, true, true, true, true] rfl rfl (by kernel_rfl) (fun _ _ _ h => h) (Or.inl ⟨by rfl, ?_⟩) ?_ ?_
        rotate_left
        · intro w'
          go_simp
          with_reducible rfl
        rotate_left
        · simp only [Act.put, List.setIfInBounds_toArray, List.set_cons_zero, List.set_cons_succ, i64_w, i32_w]
          rfl
        refine done_ (by kernel_rfl) ?_
        clear hFM
        cases qd
        · have HX : Aside0 (cR (fB b) from_ (X (n + 1) - from_).toNat = cR (fB b) from_ (X n - from_).toNat) := ⟨by have h := HST.out; simp only [Bool.false_and, Bool.and_false, Bool.false_eq_true, if_false, Int.add_zero] at h; rw [show X = upTo from_ til from HXE.out]; exact h⟩
          go_wp2_with (first | ((with_reducible refine wpList_isCons ?_); refine wpList_load_row rfl 80 (.tmp 9) rfl g rfl 80 _ (0, 0) _ (hI.out.get 0 rfl) Try.underlying80 rfl size80 ?_) | (go_at_call 43; (with_reducible refine (tomorrow_c n _ HN.out.1 (by have := HN.out; omega)).mono ?_); rintro e w72 ⟨rfl, hb⟩; have hI2 := Aside0.mk ((hI.out.alloc #[.int .i64 (yr n), .int .i64 (mo n), .int .i64 (dy n)] 80).drop1.below hb); clear hI hb; have hI := hI2; clear hI2) | ((with_reducible refine wpList_isCons ?_); refine wpList_store_row rfl 80 (.tmp 9) (.tmp 19) rfl w11.heap.size #[.int .i64 (yr (n + 1)), .int .i64 (mo (n + 1)), .int .i64 (dy (n + 1))] rfl rfl 80 _ (hI.out.get 0 rfl) size80 (sz3 _ _ _ _ _ _) (one3 _ _ _) ?_; have hI2 := Aside0.mk (hI.out.row #[.int .i64 (yr (n + 1)), .int .i64 (mo (n + 1)), .int .i64 (dy (n + 1))]); clear hI; have hI := hI2; clear hI2; generalize hg3 : World.setRow _ _ _ = w73 at hI ⊢; clear hg3))
          go_roundg (n9 - (n + 1)).toNat
          case measure => have := HN.out; have := HM.out; omega
          case rel => exact ⟨n + 1, w11.heap.size, by rw [HX.out], by first | rfl | (congr 1; omega) | go_num, rfl, hI, ⟨by have := HN.out; omega, by have := HN.out; omega⟩, ⟨Nat.le_refl _⟩⟩
        · obtain ⟨hi, hhi⟩ : ∃ x, x = min (til - 86400 * n) 86400 := ⟨_, rfl⟩
          obtain ⟨lo, hlo⟩ : ∃ x, x = max (from_ - 86400 * n) 0 := ⟨_, rfl⟩
          have HLH : Aside0 (0 ≤ lo ∧ 0 ≤ hi ∧ hi ≤ 86400 ∧ lo ≤ 86400) := ⟨by have := HB.out; have := HD.out; have := HN.out; omega⟩
          have m1 : (if 86400 < til - 86400 * n then 86400 else til - 86400 * n) = hi := by rw [hhi]; split <;> omega
          have m2 : (if from_ - 86400 * n < 0 then 0 else from_ - 86400 * n) = lo := by rw [hlo]; split <;> omega
          have n1 : IntKind.i64.wrap (86400 * n) = 86400 * n := by rw [i64_w]; exact e3
          have n2 : IntKind.i64.wrap (til - 86400 * n) = til - 86400 * n := by rw [i64_w]; exact w64_in _ (by have := HB.out; have := HN.out; omega) (by have := HB.out; have := HN.out; omega)
          have n3 : IntKind.i64.wrap (from_ - 86400 * n) = from_ - 86400 * n := by rw [i64_w]; exact w64_in _ (by have := HB.out; have := HN.out; omega) (by have := HB.out; have := HN.out; omega)
          have p1 := pT_bd b hi HLH.out.2.1 HLH.out.2.2.1
          have p2 := pT_bd b lo HLH.out.1 HLH.out.2.2.2
          have p3 := cR_bd (fB b) from_ (X n - from_).toNat
          have p4 : (((X n - from_).toNat : Nat) : Int) ≤ 1000000000000 := by have := HB.out; rw [show X = upTo from_ til from HXE.out]; unfold upTo; omega
          have n4 : IntKind.i64.wrap (pT b hi - pT b lo) = pT b hi - pT b lo := by rw [i64_w]; exact w64_in _ (by omega) (by omega)
          have n5 : IntKind.i64.wrap (cR (fB b) from_ (X n - from_).toNat + (pT b hi - pT b lo)) = cR (fB b) from_ (X n - from_).toNat + (pT b hi - pT b lo) := by rw [i64_w]; exact w64_in _ (by omega) (by omega)
          have HX1 : Aside0 (cR (fB b) from_ (X (n + 1) - from_).toNat = cR (fB b) from_ (X n - from_).toNat + (pT b hi - pT b lo)) := ⟨by have h := HST.out; simp only [Bool.and_self, if_true] at h; rw [← hhi, ← hlo] at h; rw [show X = upTo from_ til from HXE.out]; exact h⟩
          clear p1 p2 p3 p4 hhi hlo HST
          go_wp2_with fail
          refine start_ (n := 18) (S := Blk w [(g, #[.int .i64 (yr n), .int .i64 (mo n), .int .i64 (dy n)], 80), (w.heap.size, fv b, 32)]) (ds := []) #[false, false, false, false, false, false, false, false, false, false, false, false, false, false, false, false, false, false] (by kernel_rfl) rfl rfl (hI.out.drew) (fun hHeld => ?_)
          have hI2 := Aside0.mk hI.out.drew
          clear hI
          have hI := hI2
          clear hI2
          generalize hwd : World.drew _ = wdr at hI hHeld ⊢
          clear hwd
          refine pure_ (i := 0) (N := (some 33)) (v := ?_) (a' := ?_) #[true, false, false, false, false, false, false, false, false, false, false, false, false, false, false, false, false, false] rfl rfl (by kernel_rfl) (fun _ _ _ h => h) (Or.inl ⟨by rfl, ?_⟩) ?_ ?_
          rotate_left
          · intro w'
            go_simp
            with_reducible rfl
          rotate_left
          · simp only [Act.put, List.setIfInBounds_toArray, List.set_cons_zero, List.set_cons_succ, i64_w, i32_w]
            rfl
          refine take_ (i := 1) (N := (some 34)) (v := ?_) (a' := ?_) #[true, true, false, false, false, false, false, false, false, false, false, false, false, false, false, false, false, false] rfl rfl (by kernel_rfl) (fun _ _ _ h => h) (Or.inl ⟨by rfl, ?_⟩) hHeld ?_ ?_
          rotate_left
          · intro w' hS
            refine exec_load_row 32 (.tmp 3) ?_ (w.heap.size) ?_ 32 _ _ (hS.get 1 rfl) Try.underlying32 rfl size32v.out
            · rfl
            · rfl
          rotate_left
          · simp only [Act.put, List.setIfInBounds_toArray, List.set_cons_zero, List.set_cons_succ, i64_w, i32_w]
            rfl
          refine pure_ (i := 2) (N := (some 35)) (v := ?_) (a' := ?_) #[true, true, true, false, false, false, false, false, false, false, false, false, false, false, false, false, false, false] rfl rfl (by kernel_rfl) (fun _ _ _ h => h) (Or.inl ⟨by rfl, ?_⟩) ?_ ?_
          rotate_left
          · intro w'
            go_simp
            with_reducible rfl
          rotate_left
          · simp only [Act.put, List.setIfInBounds_toArray, List.set_cons_zero, List.set_cons_succ, i64_w, i32_w]
            rfl
          refine pure_ (i := 3) (N := (some 36)) (v := ?_) (a' := ?_) #[true, true, true, true, false, false, false, false, false, false, false, false, false, false, false, false, false, false] rfl rfl (by kernel_rfl) (fun _ _ _ h => h) (Or.inl ⟨by rfl, ?_⟩) ?_ ?_
          rotate_left
          · intro w'
            go_simp
            with_reducible rfl
          rotate_left
          · simp only [Act.put, List.setIfInBounds_toArray, List.set_cons_zero, List.set_cons_succ, i64_w, i32_w]
            rfl
          refine pure_ (i := 4) (N := (some 37)) (v := ?_) (a' := ?_) #[true, true, true, true, true, false, false, false, false, false, false, false, false, false, false, false, false, false] rfl rfl (by kernel_rfl) (fun _ _ _ h => h) (Or.inl ⟨by rfl, ?_⟩) ?_ ?_
          rotate_left
          · intro w'
            go_simp
            with_reducible rfl
          rotate_left
          · simp only [Act.put, List.setIfInBounds_toArray, List.set_cons_zero, List.set_cons_succ, i64_w, i32_w]
            rfl
          refine pure_ (i := 5) (N := (some 38)) (v := ?_) (a' := ?_) #[true, true, true, true, true, true, false, false, false, false, false, false, false, false, false, false, false, false] rfl rfl (by kernel_rfl) (fun _ _ _ h => h) (Or.inl ⟨by rfl, ?_⟩) ?_ ?_
          rotate_left
          · intro w'
            go_simp
            with_reducible rfl
          rotate_left
          · simp only [Act.put, List.setIfInBounds_toArray, List.set_cons_zero, List.set_cons_succ, i64_w, i32_w]
            rfl
          refine pure_ (i := 6) (N := (some 39)) (v := ?_) (a' := ?_) #[true, true, true, true, true, true, true, false, false, false, false, false, false, false, false, false, false, false] rfl rfl (by kernel_rfl) (fun _ _ _ h => h) (Or.inl ⟨by rfl, ?_⟩) ?_ ?_
          rotate_left
          · intro w'
            go_simp
            with_reducible rfl
          rotate_left
          · simp only [Act.put, List.setIfInBounds_toArray, List.set_cons_zero, List.set_cons_succ, i64_w, i32_w]
            rfl
          refine take_ (i := 8) (N := (some 41)) (v := ?_) (a' := ?_) #[true, true, true, true, true, true, true, false, true, false, false, false, false, false, false, false, false, false] rfl rfl (by kernel_rfl) (fun _ _ _ h => h) (Or.inl ⟨by rfl, ?_⟩) hHeld ?_ ?_
          rotate_left
          · intro w' hS
            refine exec_load_row 32 (.tmp 3) ?_ (w.heap.size) ?_ 32 _ _ (hS.get 1 rfl) Try.underlying32 rfl size32v.out
            · rfl
            · rfl
          rotate_left
          · simp only [Act.put, List.setIfInBounds_toArray, List.set_cons_zero, List.set_cons_succ, i64_w, i32_w]
            rfl
          refine pure_ (i := 9) (N := (some 42)) (v := ?_) (a' := ?_) #[true, true, true, true, true, true, true, false, true, true, false, false, false, false, false, false, false, false] rfl rfl (by kernel_rfl) (fun _ _ _ h => h) (Or.inl ⟨by rfl, ?_⟩) ?_ ?_
          rotate_left
          · intro w'
            go_simp
            with_reducible rfl
          rotate_left
          · simp only [Act.put, List.setIfInBounds_toArray, List.set_cons_zero, List.set_cons_succ, i64_w, i32_w]
            rfl
          refine pure_ (i := 10) (N := (some 43)) (v := ?_) (a' := ?_) #[true, true, true, true, true, true, true, false, true, true, true, false, false, false, false, false, false, false] rfl rfl (by kernel_rfl) (fun _ _ _ h => h) (Or.inl ⟨by rfl, ?_⟩) ?_ ?_
          rotate_left
          · intro w'
            go_simp
            with_reducible rfl
          rotate_left
          · simp only [Act.put, List.setIfInBounds_toArray, List.set_cons_zero, List.set_cons_succ, i64_w, i32_w]
            rfl
          refine pure_ (i := 11) (N := (some 44)) (v := ?_) (a' := ?_) #[true, true, true, true, true, true, true, false, true, true, true, true, false, false, false, false, false, false] rfl rfl (by kernel_rfl) (fun _ _ _ h => h) (Or.inl ⟨by rfl, ?_⟩) ?_ ?_
          rotate_left
          · intro w'
            go_simp
            with_reducible rfl
          rotate_left
          · simp only [Act.put, List.setIfInBounds_toArray, List.set_cons_zero, List.set_cons_succ, i64_w, i32_w]
            rfl
          refine pure_ (i := 12) (N := (some 45)) (v := ?_) (a' := ?_) #[true, true, true, true, true, true, true, false, true, true, true, true, true, false, false, false, false, false] rfl rfl (by kernel_rfl) (fun _ _ _ h => h) (Or.inl ⟨by rfl, ?_⟩) ?_ ?_
          rotate_left
          · intro w'
            go_simp
            with_reducible rfl
          rotate_left
          · simp only [Act.put, List.setIfInBounds_toArray, List.set_cons_zero, List.set_cons_succ, i64_w, i32_w]
            rfl
          refine pure_ (i := 13) (N := (some 46)) (v := ?_) (a' := ?_) #[true, true, true, true, true, true, true, false, true, true, true, true, true, true, false, false, false, false] rfl rfl (by kernel_rfl) (fun _ _ _ h => h) (Or.inl ⟨by rfl, ?_⟩) ?_ ?_
          rotate_left
          · intro w'
            go_simp
            with_reducible rfl
          rotate_left
          · simp only [Act.put, List.setIfInBounds_toArray, List.set_cons_zero, List.set_cons_succ, i64_w, i32_w]
            rfl
          refine one_ (i := 7) (N := (some 40)) #[true, true, true, true, true, true, true, true, true, true, true, true, true, true, false, false, false, false] rfl rfl (by kernel_rfl) (by decide) (fun K hK => ?_)
          refine goes_ Try.func45 (by kernel_rfl) rfl #[.agg (fv b), .int .i64 hi] (by rfl) rfl rfl (by (try simp only [List.map_toArray, List.map_cons, List.map_nil]); first | done | rfl) ?_
          refine (part_any b hi _ HLH.out.2.1 HLH.out.2.2.1).mono ?_
          rintro e w7 ⟨rfl, hb⟩
          refine ⟨_, rfl, ?_⟩
          have hI2 := Aside0.mk (hI.out.below hb)
          clear hI hb
          have hI := hI2
          clear hI2
          refine hK.out _ _ (hI.out) (fun hHeld => ?_)
          clear hK K
          refine norm_ (a' := ?_) ?_ ?_
          rotate_left
          · show Act.put _ (some 40) _ = _
            simp only [Act.put, List.setIfInBounds_toArray, List.set_cons_zero, List.set_cons_succ, i64_w, i32_w]
            rfl
          refine one_ (i := 14) (N := (some 47)) #[true, true, true, true, true, true, true, true, true, true, true, true, true, true, true, false, false, false] rfl rfl (by kernel_rfl) (by decide) (fun K hK => ?_)
          refine goes_ Try.func45 (by kernel_rfl) rfl #[.agg (fv b), .int .i64 lo] (by rfl) rfl rfl (by (try simp only [List.map_toArray, List.map_cons, List.map_nil]); first | done | rfl) ?_
          refine (part_any b lo _ HLH.out.1 HLH.out.2.2.2).mono ?_
          rintro e w14 ⟨rfl, hb⟩
          refine ⟨_, rfl, ?_⟩
          have hI2 := Aside0.mk (hI.out.below hb)
          clear hI hb
          have hI := hI2
          clear hI2
          refine hK.out _ _ (hI.out) (fun hHeld => ?_)
          clear hK K
          refine norm_ (a' := ?_) ?_ ?_
          rotate_left
          · show Act.put _ (some 47) _ = _
            simp only [Act.put, List.setIfInBounds_toArray, List.set_cons_zero, List.set_cons_succ, i64_w, i32_w]
            rfl
          refine pure_ (i := 15) (N := (some 48)) (v := ?_) (a' := ?_) #[true, true, true, true, true, true, true, true, true, true, true, true, true, true, true, true, false, false] rfl rfl (by kernel_rfl) (fun _ _ _ h => h) (Or.inl ⟨by rfl, ?_⟩) ?_ ?_
          rotate_left
          · intro w'
            go_simp
            with_reducible rfl
          rotate_left
          · simp only [Act.put, List.setIfInBounds_toArray, List.set_cons_zero, List.set_cons_succ, i64_w, i32_w]
            rfl
          refine pure_ (i := 16) (N := (some 49)) (v := ?_) (a' := ?_) #[true, true, true, true, true, true, true, true, true, true, true, true, true, true, true, true, true, false] rfl rfl (by kernel_rfl) (fun _ _ _ h => h) (Or.inl ⟨by rfl, ?_⟩) ?_ ?_
          rotate_left
          · intro w'
            go_simp
            with_reducible rfl
          rotate_left
          · simp only [Act.put, List.setIfInBounds_toArray, List.set_cons_zero, List.set_cons_succ, i64_w, i32_w]
            rfl
          refine pure_ (i := 17) (N := (some 7)) (v := ?_) (a' := ?_) #[true, true, true, true, true, true, true, true, true, true, true, true, true, true, true, true, true, true] rfl rfl (by kernel_rfl) (fun _ _ _ h => h) (Or.inl ⟨by rfl, ?_⟩) ?_ ?_
          rotate_left
          · intro w'
            go_simp
            with_reducible rfl
          rotate_left
          · simp only [Act.put, List.setIfInBounds_toArray, List.set_cons_zero, List.set_cons_succ, i64_w, i32_w]
            rfl
          refine done_ (by kernel_rfl) ?_
          have HX : Aside0 (cR (fB b) from_ (X (n + 1) - from_).toNat = cR (fB b) from_ (X n - from_).toNat + (pT b hi - pT b lo)) := ⟨HX1.out⟩
          go_wp2_with (first | ((with_reducible refine wpList_isCons ?_); refine wpList_load_row rfl 80 (.tmp 9) rfl g rfl 80 _ (0, 0) _ (hI.out.get 0 rfl) Try.underlying80 rfl size80 ?_) | (go_at_call 43; (with_reducible refine (tomorrow_c n _ HN.out.1 (by have := HN.out; omega)).mono ?_); rintro e w72 ⟨rfl, hb⟩; have hI2 := Aside0.mk ((hI.out.alloc #[.int .i64 (yr n), .int .i64 (mo n), .int .i64 (dy n)] 80).drop1.below hb); clear hI hb; have hI := hI2; clear hI2) | ((with_reducible refine wpList_isCons ?_); refine wpList_store_row rfl 80 (.tmp 9) (.tmp 19) rfl w14.heap.size #[.int .i64 (yr (n + 1)), .int .i64 (mo (n + 1)), .int .i64 (dy (n + 1))] rfl rfl 80 _ (hI.out.get 0 rfl) size80 (sz3 _ _ _ _ _ _) (one3 _ _ _) ?_; have hI2 := Aside0.mk (hI.out.row #[.int .i64 (yr (n + 1)), .int .i64 (mo (n + 1)), .int .i64 (dy (n + 1))]); clear hI; have hI := hI2; clear hI2; generalize hg3 : World.setRow _ _ _ = w73 at hI ⊢; clear hg3))
          go_roundg (n9 - (n + 1)).toNat
          case measure => have := HN.out; have := HM.out; omega
          case rel => exact ⟨n + 1, w14.heap.size, by rw [HX.out], by first | rfl | (congr 1; omega) | go_num, rfl, hI, ⟨by have := HN.out; omega, by have := HN.out; omega⟩, ⟨Nat.le_refl _⟩⟩
    · have e5 : decide (86400 * n < til) = false := decide_eq_false htl
      go_wp2_with fail
      go_ret
      refine ⟨?_, hI.out.B⟩
      have hx : X n = til := by rw [show X = upTo from_ til from HXE.out]; unfold upTo; have := HB.out; omega
      rw [← hx]
      rfl
end Go.Proofs.Ytlgdaegaahnkbaa.Tm
