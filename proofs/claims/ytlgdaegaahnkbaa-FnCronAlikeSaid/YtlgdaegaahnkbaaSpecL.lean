/- The reference's search on clocks without changes, by hand: CronLocal (printed by gen_sl.py). -/
import Derived.Test.YtlgdaegaahnkbaaSpecK
namespace Go.Proofs.Ytlgdaegaahnkbaa.Tm
open Go Go.RowKit Cal MC
open Go.Proofs.YtlgdaegaahnkbaaW.PrintWords Go.Proofs.YtlgdaegaahnkbaaW.PrintLast Go.Proofs.YtlgdaegaahnkbaaW.PrintMore
set_option linter.unusedVariables false
set_option linter.unusedSimpArgs false
theorem size80 : (Try.prog.info? 80).map (·.size) = some 3 := by kernel_rfl
theorem size32 : (Try.prog.info? 32).map (·.size) = some 384 := (zero_of_info zero32).2
theorem one3 (a b c : Int) : (#[Value.int .i64 a, Value.int .i64 b, Value.int .i64 c]).all (·.oneCell') = true := by simp [Value.oneCell']
theorem sz3 (a b c d e f : Value) : (#[a, b, c] : Array Value).size = (#[d, e, f] : Array Value).size := rfl
/-- The search's answer. -/
def LocalPost (b : SB) (from_ til last : Int) (W : World) (e : Ending) (w' : World) : Prop := ∃ v f, IsLocal b.sch from_ til last v f ∧ e = .returned (.tuple #[.int .i64 v, .bool f]) ∧ Below W.heap.size W w'
theorem meas_go {a n0 n : Int} {gk : Nat} (h : (a - n0 - (n - n0)).toNat ≤ gk) (h1 : n < a) : (a - n0 - (n + 1 - n0)).toNat < gk := by omega
set_option maxHeartbeats 8000000 in
set_option maxRecDepth 100000 in
theorem local_any (b : SB) (from_ til last : Int) (w : World) (f0 : -62135596800 ≤ from_) (f1 : from_ ≤ 253402300800) (u0 : -4611686018427387904 ≤ til) (u1 : til ≤ 4611686018427387904) (l0 : -10000 ≤ last) (l1 : last ≤ 10300) :
    Calls Try.prog 66 #[.agg (fv b), .int .i64 from_, .int .i64 til, .int .i64 last] w (LocalPost b from_ til last w) := by
  have size32v : Aside0 ((Try.prog.info? 32).map (·.size) = some (fv b).size) := ⟨by unfold fv; rw [arrB_size]; exact size32⟩
  have hI := Aside0.mk ((Blk.nil w).alloc (fv b) 32)
  obtain ⟨q, hq⟩ : ∃ q, q = neverB b := ⟨_, rfl⟩
  have CN : Aside0 (∀ w, Calls Try.prog 46 #[.agg (fv b)] w fun e w' => e = .returned (.bool q) ∧ Below w.heap.size w w') := ⟨fun w => by rw [hq]; exact never_any b w⟩
  have HQ := Aside0.mk hq
  clear hq
  obtain ⟨n0, hn0⟩ : ∃ n0, n0 = from_ / 86400 := ⟨_, rfl⟩
  have HN0 := Aside0.mk hn0
  have CF : Aside0 (∀ w, Calls Try.prog 41 #[.int .i64 from_, .int .i64 86400] w fun e w' => e = .returned (.int .i64 n0) ∧ Below w.heap.size w w') := ⟨fun w => by rw [hn0]; exact floorDay_c from_ w (by omega) (by omega)⟩
  have HD : Aside0 (-719162 ≤ n0 ∧ n0 ≤ 2932897 ∧ 0 ≤ from_ - 86400 * n0 ∧ from_ - 86400 * n0 < 86400) := ⟨by omega⟩
  have HB := Aside0.mk (And.intro f0 (And.intro f1 (And.intro u0 (And.intro u1 (And.intro l0 l1)))))
  have e1 : wrap64 (86400 * n0) = 86400 * n0 := w64_in _ (by omega) (by omega)
  have e2 : wrap64 (from_ - 86400 * n0) = from_ - 86400 * n0 := w64_in _ (by omega) (by omega)
  clear f0 f1 u0 u1 l0 l1 hn0
  go_enter Try.func66, Try.ntmps66
  cases q
  · go_wp2_with (first | (refine wpList_load_row rfl 32 (.tmp 4) rfl w.heap.size rfl 32 _ (0, 0) _ (hI.out.get 0 rfl) Try.underlying32 rfl size32v.out ?_) | (go_at_call 46; (with_reducible refine (CN.out _).mono ?_); rintro e w2 ⟨rfl, hb⟩; have hI2 := Aside0.mk (hI.out.below hb); clear hI hb; have hI := hI2; clear hI2) | (go_at_call 41; (with_reducible refine (CF.out _).mono ?_); rintro e w3 ⟨rfl, hb⟩; have hI2 := Aside0.mk (hI.out.below hb); clear hI hb; have hI := hI2; clear hI2) | (go_at_call 42; (with_reducible refine (dateOf_c n0 _ HD.out.1 (by have := HD.out; omega)).mono ?_); rintro e w4 ⟨rfl, hb⟩; have hI2 := Aside0.mk (hI.out.below hb); clear hI hb; have hI := hI2; clear hI2) | fail)
    go_loopg [10, 11, 12] ((ys (last + 1) - n0) - (n0 - n0)).toNat (fun gk s10 s11 s12 wr => ∃ (n r : Int) (g : Nat), s10 = .int .i64 n ∧ s11 = .int .i64 r ∧ s12 = .pointer (some ⟨g, 0, none⟩) ∧ Aside0 (Blk w [(g, #[.int .i64 (yr n), .int .i64 (mo n), .int .i64 (dy n)], 80), (w.heap.size, fv b, 32)] wr) ∧ Aside0 (NoFit b.sch from_ (86400 * n + r) ∧ from_ ≤ 86400 * n + r ∧ 0 ≤ r ∧ r < 86400 ∧ -719162 ≤ n ∧ n ≤ 3090001) ∧ Aside0 (((ys (last + 1) - n0) - (n - n0)).toNat ≤ gk))
    case atStart => exact ⟨n0, from_ - 86400 * n0, w4.heap.size, by first | rfl | go_num, by first | rfl | go_num, rfl, ⟨hI.out.alloc _ 80⟩, ⟨NoFit.none (by omega), by omega, by have := HD.out; omega, by have := HD.out; omega, by have := HD.out; omega, by have := HD.out; omega⟩, ⟨Nat.le_refl _⟩⟩
    case round =>
      clear hI
      obtain ⟨n, r, g, rfl, rfl, rfl, hI, HA, HM⟩ := hrel
      clear e1 e2 CN CF
      have cy : wr.cell? ⟨g, 0, none⟩ = some (.int .i64 (yr n)) := (hI.out.cell 0 rfl 0).trans rfl
      have e3 : wrap64 (86400 * n) = 86400 * n := w64_in _ (by have := HA.out; omega) (by have := HA.out; omega)
      by_cases hyl : yr n ≤ last
      · have e4 : decide (yr n ≤ last) = true := decide_eq_true hyl
        by_cases htl : 86400 * n < til
        · have e5 : decide (86400 * n < til) = true := decide_eq_true htl
          go_wp2_with fail
          have hyn := yr_bd (n := n) (by have := HA.out; omega) (by have := HA.out; omega)
          have hmn := mo_bd n
          have hdn := dy_bd n
          have hmd := md_bd (yr n) (mo n)
          have HN : Aside0 (-719162 ≤ n ∧ n ≤ 3090000) := ⟨by have := HA.out; omega, dom_day HB.out.2.2.2.2.2 hyl⟩
          have HYL := Aside0.mk hyl
          have HMN := Aside0.mk (And.intro hmn (And.intro hdn hmd))
          have hyb : n < ys (last + 1) := yr_le.1 hyl
          have HYB := Aside0.mk hyb
          obtain ⟨qm, hqm⟩ : ∃ q, q = bitOf b.m (mo n) := ⟨_, rfl⟩
          have HQM := Aside0.mk hqm
          have hFM : Aside0 (∀ w' : World, w'.heap[w.heap.size]? = some (.cells (fv b) 32 (0, 0)) → w'.cell? ⟨w.heap.size, 257 + (mo n).toNat, none⟩ = some (.bool qm)) := ⟨fun w' h => by
            rw [hqm]
            have := fv_cell (w := w) (b := b) h 4 (mo n) (by decide) (by show (1 : Int) ≤ mo n; omega) (by show mo n ≤ (12 : Int); omega)
            rwa [show 64 * 4 + 1 + (mo n).toNat = 257 + (mo n).toNat by omega] at this⟩
          obtain ⟨qd, hqd⟩ : ∃ q, q = dayOk b.d b.w n := ⟨_, rfl⟩
          have HQD := Aside0.mk hqd
          have hDF : Aside0 (∀ w' : World, Calls Try.prog 38 #[.agg (fv b), .agg #[.int .i64 (yr n), .int .i64 (mo n), .int .i64 (dy n)], .int .i64 (wd n)] w' fun e w'' => e = .returned (.bool qd) ∧ Below w'.heap.size w' w'') := ⟨fun w' => by
            rw [hqd]
            exact dayFits_any b (yr n) (mo n) (dy n) (wd n) w' (by omega) (by omega) (by unfold wd; omega) (by unfold wd; omega)⟩
          clear hqm hqd cy hyn hmd hdn
          cases qm
          · refine start_ (n := 13) (S := Blk w [(g, #[.int .i64 (yr n), .int .i64 (mo n), .int .i64 (dy n)], 80), (w.heap.size, fv b, 32)]) (ds := []) #[false, false, false, false, false, false, false, false, false, false, false, false, false] (by kernel_rfl) rfl rfl (hI.out.drew) (fun hHeld => ?_)
            refine pure_ (i := 0) (N := (some 36)) (v := ?_) (a' := ?_) #[true, false, false, false, false, false, false, false, false, false, false, false, false] rfl rfl (by kernel_rfl) (fun _ _ _ h => h) (Or.inl ⟨by rfl, ?_⟩) ?_ ?_
            rotate_left
            · intro w'
              go_simp
              with_reducible rfl
            rotate_left
            · simp only [Act.put, List.setIfInBounds_toArray, List.set_cons_zero, List.set_cons_succ, i64_w, i32_w]
              rfl
            refine take_ (i := 1) (N := (some 37)) (v := ?_) (a' := ?_) #[true, true, false, false, false, false, false, false, false, false, false, false, false] rfl rfl (by kernel_rfl) (fun _ _ _ h => h) (Or.inl ⟨by rfl, ?_⟩) hHeld ?_ ?_
            rotate_left
            · intro w' hS
              have cc := (hS.cell 0 rfl 1).trans (show _ = some (Value.int .i64 (mo n)) from rfl)
              go_simp
              with_reducible rfl
            rotate_left
            · simp only [Act.put, List.setIfInBounds_toArray, List.set_cons_zero, List.set_cons_succ, i64_w, i32_w]
              rfl
            refine pure_ (i := 2) (N := (some 38)) (v := ?_) (a' := ?_) #[true, true, true, false, false, false, false, false, false, false, false, false, false] rfl rfl (by kernel_rfl) (fun _ _ _ h => h) (Or.inl ⟨by rfl, ?_⟩) ?_ ?_
            rotate_left
            · intro w'
              go_simp
              with_reducible rfl
            rotate_left
            · simp only [Act.put, List.setIfInBounds_toArray, List.set_cons_zero, List.set_cons_succ, i64_w, i32_w]
              rfl
            refine pure_ (i := 3) (N := (some 39)) (v := ?_) (a' := ?_) #[true, true, true, true, false, false, false, false, false, false, false, false, false] rfl rfl (by kernel_rfl) (fun _ _ _ h => h) (Or.inl ⟨by rfl, ?_⟩) ?_ ?_
            rotate_left
            · intro w'
              go_simp
              with_reducible rfl
            rotate_left
            · simp only [Act.put, List.setIfInBounds_toArray, List.set_cons_zero, List.set_cons_succ, i64_w, i32_w]
              rfl
            refine pure_ (i := 4) (N := (some 40)) (v := ?_) (a' := ?_) #[true, true, true, true, true, false, false, false, false, false, false, false, false] rfl rfl (by kernel_rfl) (fun _ _ _ h => h) (Or.inl ⟨by rfl, ?_⟩) ?_ ?_
            rotate_left
            · intro w'
              go_simp
              rw [if_pos (by omega)]
            rotate_left
            · simp only [Act.put, List.setIfInBounds_toArray, List.set_cons_zero, List.set_cons_succ, i64_w, i32_w]
              rfl
            refine take_ (i := 5) (N := (some 41)) (v := ?_) (a' := ?_) #[true, true, true, true, true, true, false, false, false, false, false, false, false] rfl rfl (by kernel_rfl) (fun _ _ _ h => h) (Or.inl ⟨by rfl, ?_⟩) hHeld ?_ ?_
            rotate_left
            · intro w' hS
              have cc := hFM.out w' (hS.get 1 rfl)
              go_simp
              with_reducible rfl
            rotate_left
            · simp only [Act.put, List.setIfInBounds_toArray, List.set_cons_zero, List.set_cons_succ, i64_w, i32_w]
              rfl
            refine pure_ (i := 6) (N := (some 42)) (v := ?_) (a' := ?_) #[true, true, true, true, true, true, true, false, false, false, false, false, false] rfl rfl (by kernel_rfl) (fun _ _ _ h => h) (Or.inl ⟨by rfl, ?_⟩) ?_ ?_
            rotate_left
            · intro w'
              go_simp
              with_reducible rfl
            rotate_left
            · simp only [Act.put, List.setIfInBounds_toArray, List.set_cons_zero, List.set_cons_succ, i64_w, i32_w]
              rfl
            refine take_ (i := 7) (N := (some 43)) (v := undef) (a' := ?_) #[true, true, true, true, true, true, true, true, false, false, false, false, false] rfl rfl (by kernel_rfl) (fun _ _ _ h => h) (Or.inr ⟨by rfl, rfl⟩) hHeld ?_ ?_
            rotate_left
            · simp only [Act.put, List.setIfInBounds_toArray, List.set_cons_zero, List.set_cons_succ, i64_w, i32_w]
              rfl
            refine take_ (i := 8) (N := (some 44)) (v := undef) (a' := ?_) #[true, true, true, true, true, true, true, true, true, false, false, false, false] rfl rfl (by kernel_rfl) (fun _ _ _ h => h) (Or.inr ⟨by rfl, rfl⟩) hHeld ?_ ?_
            rotate_left
            · simp only [Act.put, List.setIfInBounds_toArray, List.set_cons_zero, List.set_cons_succ, i64_w, i32_w]
              rfl
            refine pure_ (i := 9) (N := (some 45)) (v := undef) (a' := ?_) #[true, true, true, true, true, true, true, true, true, true, false, false, false] rfl rfl (by kernel_rfl) (fun _ _ _ h => h) (Or.inr ⟨by rfl, rfl⟩) ?_ ?_
            rotate_left
            · simp only [Act.put, List.setIfInBounds_toArray, List.set_cons_zero, List.set_cons_succ, i64_w, i32_w]
              rfl
            refine one_ (i := 10) (N := (some 46)) #[true, true, true, true, true, true, true, true, true, true, true, false, false] rfl rfl (by kernel_rfl) (by decide) (fun K hK => ?_)
            refine off_ (by rfl) (hK.out _ _ hHeld (fun hHeld => ?_))
            clear hK K
            refine norm_ (a' := ?_) ?_ ?_
            rotate_left
            · show Act.put _ (some 46) _ = _
              simp only [Act.put, List.setIfInBounds_toArray, List.set_cons_zero, List.set_cons_succ, i64_w, i32_w]
              rfl
            refine one_ (i := 11) (N := (some 47)) #[true, true, true, true, true, true, true, true, true, true, true, true, false] rfl rfl (by kernel_rfl) (by decide) (fun K hK => ?_)
            refine off_ (by rfl) (hK.out _ _ hHeld (fun hHeld => ?_))
            clear hK K
            refine norm_ (a' := ?_) ?_ ?_
            rotate_left
            · show Act.put _ (some 47) _ = _
              simp only [Act.put, List.setIfInBounds_toArray, List.set_cons_zero, List.set_cons_succ, i64_w, i32_w]
              rfl
            refine pure_ (i := 12) (N := (some 48)) (v := ?_) (a' := ?_) #[true, true, true, true, true, true, true, true, true, true, true, true, true] rfl rfl (by kernel_rfl) (fun _ _ _ h => h) (Or.inl ⟨by rfl, ?_⟩) ?_ ?_
            rotate_left
            · intro w'
              go_simp
              with_reducible rfl
            rotate_left
            · simp only [Act.put, List.setIfInBounds_toArray, List.set_cons_zero, List.set_cons_succ, i64_w, i32_w]
              rfl
            refine done_ (by kernel_rfl) ?_
            clear hFM hDF
            have e6 : wrap64 (n + 1) = n + 1 := w64_in _ (by have := HN.out; omega) (by have := HN.out; omega)
            have hI2 := Aside0.mk hI.out.drew
            clear hI hHeld
            have hI := hI2
            clear hI2
            generalize hw8 : World.drew _ = w8 at hI ⊢
            clear hw8
            have NF : Aside0 (NoFit b.sch from_ (86400 * (n + 1))) := ⟨day_none HA.out.1 HA.out.2.2.1 fun hf => absurd hf.1 (by rw [show b.sch.M (mo n) = false from HQM.out.symm]; simp)⟩
            go_wp2_with (first | (refine wpList_load_row rfl 80 (.tmp 12) rfl g rfl 80 _ (0, 0) _ (hI.out.get 0 rfl) Try.underlying80 rfl size80 ?_) | (go_at_call 43; (with_reducible refine (tomorrow_c n _ HN.out.1 (by have := HN.out; omega)).mono ?_); rintro e w72 ⟨rfl, hb⟩; have hI2 := Aside0.mk ((hI.out.alloc #[.int .i64 (yr n), .int .i64 (mo n), .int .i64 (dy n)] 80).drop1.below hb); clear hI hb; have hI := hI2; clear hI2) | (refine wpList_store_row rfl 80 (.tmp 12) (.tmp 35) rfl w8.heap.size #[.int .i64 (yr (n + 1)), .int .i64 (mo (n + 1)), .int .i64 (dy (n + 1))] rfl rfl 80 _ (hI.out.get 0 rfl) size80 (sz3 _ _ _ _ _ _) (one3 _ _ _) ?_; have hI2 := Aside0.mk (hI.out.row #[.int .i64 (yr (n + 1)), .int .i64 (mo (n + 1)), .int .i64 (dy (n + 1))]); clear hI; have hI := hI2; clear hI2; generalize hg3 : World.setRow _ _ _ = w73 at hI ⊢; clear hg3))
            go_roundg ((ys (last + 1) - n0) - (n + 1 - n0)).toNat
            case measure => exact meas_go HM.out HYB.out
            case rel => exact ⟨n + 1, 0, w8.heap.size, by first | rfl | (congr 1; omega) | go_num, rfl, rfl, hI, ⟨by simpa using NF.out, by have := HA.out; omega, by omega, by omega, by have := HN.out; omega, by have := HN.out; omega⟩, ⟨Nat.le_refl _⟩⟩
          · refine start_ (n := 13) (S := Blk w [(g, #[.int .i64 (yr n), .int .i64 (mo n), .int .i64 (dy n)], 80), (w.heap.size, fv b, 32)]) (ds := []) #[false, false, false, false, false, false, false, false, false, false, false, false, false] (by kernel_rfl) rfl rfl (hI.out.drew) (fun hHeld => ?_)
            refine pure_ (i := 0) (N := (some 36)) (v := ?_) (a' := ?_) #[true, false, false, false, false, false, false, false, false, false, false, false, false] rfl rfl (by kernel_rfl) (fun _ _ _ h => h) (Or.inl ⟨by rfl, ?_⟩) ?_ ?_
            rotate_left
            · intro w'
              go_simp
              with_reducible rfl
            rotate_left
            · simp only [Act.put, List.setIfInBounds_toArray, List.set_cons_zero, List.set_cons_succ, i64_w, i32_w]
              rfl
            refine take_ (i := 1) (N := (some 37)) (v := ?_) (a' := ?_) #[true, true, false, false, false, false, false, false, false, false, false, false, false] rfl rfl (by kernel_rfl) (fun _ _ _ h => h) (Or.inl ⟨by rfl, ?_⟩) hHeld ?_ ?_
            rotate_left
            · intro w' hS
              have cc := (hS.cell 0 rfl 1).trans (show _ = some (Value.int .i64 (mo n)) from rfl)
              go_simp
              with_reducible rfl
            rotate_left
            · simp only [Act.put, List.setIfInBounds_toArray, List.set_cons_zero, List.set_cons_succ, i64_w, i32_w]
              rfl
            refine pure_ (i := 2) (N := (some 38)) (v := ?_) (a' := ?_) #[true, true, true, false, false, false, false, false, false, false, false, false, false] rfl rfl (by kernel_rfl) (fun _ _ _ h => h) (Or.inl ⟨by rfl, ?_⟩) ?_ ?_
            rotate_left
            · intro w'
              go_simp
              with_reducible rfl
            rotate_left
            · simp only [Act.put, List.setIfInBounds_toArray, List.set_cons_zero, List.set_cons_succ, i64_w, i32_w]
              rfl
            refine pure_ (i := 3) (N := (some 39)) (v := ?_) (a' := ?_) #[true, true, true, true, false, false, false, false, false, false, false, false, false] rfl rfl (by kernel_rfl) (fun _ _ _ h => h) (Or.inl ⟨by rfl, ?_⟩) ?_ ?_
            rotate_left
            · intro w'
              go_simp
              with_reducible rfl
            rotate_left
            · simp only [Act.put, List.setIfInBounds_toArray, List.set_cons_zero, List.set_cons_succ, i64_w, i32_w]
              rfl
            refine pure_ (i := 4) (N := (some 40)) (v := ?_) (a' := ?_) #[true, true, true, true, true, false, false, false, false, false, false, false, false] rfl rfl (by kernel_rfl) (fun _ _ _ h => h) (Or.inl ⟨by rfl, ?_⟩) ?_ ?_
            rotate_left
            · intro w'
              go_simp
              rw [if_pos (by omega)]
            rotate_left
            · simp only [Act.put, List.setIfInBounds_toArray, List.set_cons_zero, List.set_cons_succ, i64_w, i32_w]
              rfl
            refine take_ (i := 5) (N := (some 41)) (v := ?_) (a' := ?_) #[true, true, true, true, true, true, false, false, false, false, false, false, false] rfl rfl (by kernel_rfl) (fun _ _ _ h => h) (Or.inl ⟨by rfl, ?_⟩) hHeld ?_ ?_
            rotate_left
            · intro w' hS
              have cc := hFM.out w' (hS.get 1 rfl)
              go_simp
              with_reducible rfl
            rotate_left
            · simp only [Act.put, List.setIfInBounds_toArray, List.set_cons_zero, List.set_cons_succ, i64_w, i32_w]
              rfl
            refine pure_ (i := 6) (N := (some 42)) (v := ?_) (a' := ?_) #[true, true, true, true, true, true, true, false, false, false, false, false, false] rfl rfl (by kernel_rfl) (fun _ _ _ h => h) (Or.inl ⟨by rfl, ?_⟩) ?_ ?_
            rotate_left
            · intro w'
              go_simp
              with_reducible rfl
            rotate_left
            · simp only [Act.put, List.setIfInBounds_toArray, List.set_cons_zero, List.set_cons_succ, i64_w, i32_w]
              rfl
            refine take_ (i := 7) (N := (some 43)) (v := ?_) (a' := ?_) #[true, true, true, true, true, true, true, true, false, false, false, false, false] rfl rfl (by kernel_rfl) (fun _ _ _ h => h) (Or.inl ⟨by rfl, ?_⟩) hHeld ?_ ?_
            rotate_left
            · intro w' hS
              refine exec_load_row 32 (.tmp 4) ?_ w.heap.size ?_ 32 _ _ (hS.get 1 rfl) Try.underlying32 rfl size32v.out
              · rfl
              · rfl
            rotate_left
            · simp only [Act.put, List.setIfInBounds_toArray, List.set_cons_zero, List.set_cons_succ, i64_w, i32_w]
              rfl
            refine take_ (i := 8) (N := (some 44)) (v := ?_) (a' := ?_) #[true, true, true, true, true, true, true, true, true, false, false, false, false] rfl rfl (by kernel_rfl) (fun _ _ _ h => h) (Or.inl ⟨by rfl, ?_⟩) hHeld ?_ ?_
            rotate_left
            · intro w' hS
              refine exec_load_row 80 (.tmp 12) ?_ g ?_ 80 _ _ (hS.get 0 rfl) Try.underlying80 rfl size80
              · rfl
              · rfl
            rotate_left
            · simp only [Act.put, List.setIfInBounds_toArray, List.set_cons_zero, List.set_cons_succ, i64_w, i32_w]
              rfl
            refine pure_ (i := 9) (N := (some 45)) (v := ?_) (a' := ?_) #[true, true, true, true, true, true, true, true, true, true, false, false, false] rfl rfl (by kernel_rfl) (fun _ _ _ h => h) (Or.inl ⟨by rfl, ?_⟩) ?_ ?_
            rotate_left
            · intro w'
              go_simp
              with_reducible rfl
            rotate_left
            · simp only [Act.put, List.setIfInBounds_toArray, List.set_cons_zero, List.set_cons_succ, i64_w, i32_w]
              rfl
            refine one_ (i := 10) (N := (some 46)) #[true, true, true, true, true, true, true, true, true, true, true, false, false] rfl rfl (by kernel_rfl) (by decide) (fun K hK => ?_)
            refine goes_ Try.func44 (by kernel_rfl) rfl #[.int .i64 n] (by rfl) rfl rfl (by (try simp only [List.map_toArray, List.map_cons, List.map_nil]); first | done | rfl) ?_
            refine (specWeekday_c n _ (by have := HN.out; omega) (by have := HN.out; omega)).mono ?_
            rintro e w10 ⟨rfl, hb⟩
            refine ⟨_, rfl, ?_⟩
            have hI2 := Aside0.mk (hI.out.drew.below hb)
            clear hI hb
            have hI := hI2
            clear hI2
            refine hK.out _ _ (hI.out) (fun hHeld => ?_)
            clear hK K
            refine norm_ (a' := ?_) ?_ ?_
            rotate_left
            · show Act.put _ (some 46) _ = _
              simp only [Act.put, List.setIfInBounds_toArray, List.set_cons_zero, List.set_cons_succ, i64_w, i32_w]
              rfl
            refine one_ (i := 11) (N := (some 47)) #[true, true, true, true, true, true, true, true, true, true, true, true, false] rfl rfl (by kernel_rfl) (by decide) (fun K hK => ?_)
            refine goes_ Try.func38 (by kernel_rfl) rfl #[.agg (fv b), .agg #[.int .i64 (yr n), .int .i64 (mo n), .int .i64 (dy n)], .int .i64 (wd n)] (by rfl) rfl rfl (by (try simp only [List.map_toArray, List.map_cons, List.map_nil]); first | done | rfl) ?_
            refine (hDF.out _).mono ?_
            rintro e w11 ⟨rfl, hb⟩
            refine ⟨_, rfl, ?_⟩
            have hI2 := Aside0.mk (hI.out.below hb)
            clear hI hb
            have hI := hI2
            clear hI2
            refine hK.out _ _ (hI.out) (fun hHeld => ?_)
            clear hK K
            refine norm_ (a' := ?_) ?_ ?_
            rotate_left
            · show Act.put _ (some 47) _ = _
              simp only [Act.put, List.setIfInBounds_toArray, List.set_cons_zero, List.set_cons_succ, i64_w, i32_w]
              rfl
            refine pure_ (i := 12) (N := (some 48)) (v := ?_) (a' := ?_) #[true, true, true, true, true, true, true, true, true, true, true, true, true] rfl rfl (by kernel_rfl) (fun _ _ _ h => h) (Or.inl ⟨by rfl, ?_⟩) ?_ ?_
            rotate_left
            · intro w'
              go_simp
              with_reducible rfl
            rotate_left
            · simp only [Act.put, List.setIfInBounds_toArray, List.set_cons_zero, List.set_cons_succ, i64_w, i32_w]
              rfl
            refine done_ (by kernel_rfl) ?_
            clear hFM
            have e6 : wrap64 (n + 1) = n + 1 := w64_in _ (by have := HN.out; omega) (by have := HN.out; omega)
            cases qd
            · skip
              have NF : Aside0 (NoFit b.sch from_ (86400 * (n + 1))) := ⟨day_none HA.out.1 HA.out.2.2.1 fun hf => absurd hf.2 (by rw [show b.sch.D n = false from HQD.out.symm]; simp)⟩
              go_wp2_with (first | (refine wpList_load_row rfl 80 (.tmp 12) rfl g rfl 80 _ (0, 0) _ (hI.out.get 0 rfl) Try.underlying80 rfl size80 ?_) | (go_at_call 43; (with_reducible refine (tomorrow_c n _ HN.out.1 (by have := HN.out; omega)).mono ?_); rintro e w72 ⟨rfl, hb⟩; have hI2 := Aside0.mk ((hI.out.alloc #[.int .i64 (yr n), .int .i64 (mo n), .int .i64 (dy n)] 80).drop1.below hb); clear hI hb; have hI := hI2; clear hI2) | (refine wpList_store_row rfl 80 (.tmp 12) (.tmp 35) rfl w11.heap.size #[.int .i64 (yr (n + 1)), .int .i64 (mo (n + 1)), .int .i64 (dy (n + 1))] rfl rfl 80 _ (hI.out.get 0 rfl) size80 (sz3 _ _ _ _ _ _) (one3 _ _ _) ?_; have hI2 := Aside0.mk (hI.out.row #[.int .i64 (yr (n + 1)), .int .i64 (mo (n + 1)), .int .i64 (dy (n + 1))]); clear hI; have hI := hI2; clear hI2; generalize hg3 : World.setRow _ _ _ = w73 at hI ⊢; clear hg3))
              go_roundg ((ys (last + 1) - n0) - (n + 1 - n0)).toNat
              case measure => exact meas_go HM.out HYB.out
              case rel => exact ⟨n + 1, 0, w11.heap.size, by first | rfl | (congr 1; omega) | go_num, rfl, rfl, hI, ⟨by simpa using NF.out, by have := HA.out; omega, by omega, by omega, by have := HN.out; omega, by have := HN.out; omega⟩, ⟨Nat.le_refl _⟩⟩
            · go_upto_region 10 with (first | (refine wpList_load_row rfl 32 (.tmp 4) rfl w.heap.size rfl 32 _ (0, 0) _ (hI.out.get 1 rfl) Try.underlying32 rfl size32v.out ?_) | (go_at_call 48; (with_reducible refine (time_any b r _ HA.out.2.2.1 HA.out.2.2.2.1).mono ?_); rintro e w12 ⟨⟨s, hs, rfl⟩, hb⟩; have HS := Aside0.mk hs; clear hs; have hI2 := Aside0.mk (hI.out.below hb); clear hI hb; have hI := hI2; clear hI2))
              rcases HS.out with ⟨hs, hnt⟩ | ⟨hs1, hs2, hs3, hs4⟩
              · have HNT := Aside0.mk hnt
                have e7 : decide (0 ≤ s) = false := decide_eq_false (by omega)
                clear hnt HS hs
                have NF : Aside0 (NoFit b.sch from_ (86400 * (n + 1))) := ⟨day_none HA.out.1 HA.out.2.2.1 fun _ => HNT.out⟩
                go_wp2_with (first | (refine wpList_load_row rfl 80 (.tmp 12) rfl g rfl 80 _ (0, 0) _ (hI.out.get 0 rfl) Try.underlying80 rfl size80 ?_) | (go_at_call 43; (with_reducible refine (tomorrow_c n _ HN.out.1 (by have := HN.out; omega)).mono ?_); rintro e w72 ⟨rfl, hb⟩; have hI2 := Aside0.mk ((hI.out.alloc #[.int .i64 (yr n), .int .i64 (mo n), .int .i64 (dy n)] 80).drop1.below hb); clear hI hb; have hI := hI2; clear hI2) | (refine wpList_store_row rfl 80 (.tmp 12) (.tmp 35) rfl w12.heap.size #[.int .i64 (yr (n + 1)), .int .i64 (mo (n + 1)), .int .i64 (dy (n + 1))] rfl rfl 80 _ (hI.out.get 0 rfl) size80 (sz3 _ _ _ _ _ _) (one3 _ _ _) ?_; have hI2 := Aside0.mk (hI.out.row #[.int .i64 (yr (n + 1)), .int .i64 (mo (n + 1)), .int .i64 (dy (n + 1))]); clear hI; have hI := hI2; clear hI2; generalize hg3 : World.setRow _ _ _ = w73 at hI ⊢; clear hg3))
                go_roundg ((ys (last + 1) - n0) - (n + 1 - n0)).toNat
                case measure => exact meas_go HM.out HYB.out
                case rel => exact ⟨n + 1, 0, w12.heap.size, by first | rfl | (congr 1; omega) | go_num, rfl, rfl, hI, ⟨by simpa using NF.out, by have := HA.out; omega, by omega, by omega, by have := HN.out; omega, by have := HN.out; omega⟩, ⟨Nat.le_refl _⟩⟩
              · have HS2 := Aside0.mk (And.intro hs1 (And.intro hs2 (And.intro hs3 hs4)))
                have e7 : decide (0 ≤ s) = true := decide_eq_true (by have := HA.out; omega)
                have e8 : wrap64 (86400 * n + s) = 86400 * n + s := w64_in _ (by have := HN.out; have := HA.out; omega) (by have := HN.out; omega)
                have hin := day_some HA.out.1 HA.out.2.1 HA.out.2.2.1 HYL.out ⟨HQM.out.symm, HQD.out.symm⟩ hs1 hs2 hs3 hs4
                have HIN := Aside0.mk (isLocal_some (til := til) hin)
                obtain ⟨qu, hqu⟩ : ∃ q, q = decide (86400 * n + s < til) := ⟨_, rfl⟩
                rw [← hqu] at HIN
                have e9 := hqu.symm
                clear hqu hin hs1 hs2 hs3 hs4 HS
                cases qu
                all_goals
                  go_wp2_with fail
                  exact bodyPost_ret (v := .tuple #[.int .i64 (86400 * n + s), .bool _]) (by simp [results, Try.results66, go_sem, e8]) rfl ⟨_, _, HIN.out, rfl, hI.out.B⟩
        · have e5 : decide (86400 * n < til) = false := decide_eq_false htl
          go_wp2_with fail
          refine bodyPost_ret (v := .tuple #[.int .i64 0, .bool false]) (by simp [results, Try.results66, go_sem]) rfl ⟨_, _, isLocal_until HA.out.1 HA.out.2.2.1 (by omega), rfl, hI.out.B⟩
      · have e4 : decide (yr n ≤ last) = false := decide_eq_false hyl
        go_wp2_with fail
        refine bodyPost_ret (v := .tuple #[.int .i64 0, .bool false]) (by simp [results, Try.results66, go_sem]) rfl ⟨_, _, isLocal_years HA.out.1 HA.out.2.2.1 (by omega), rfl, hI.out.B⟩
  · go_wp2_with (first | (refine wpList_load_row rfl 32 (.tmp 4) rfl w.heap.size rfl 32 _ (0, 0) _ (hI.out.get 0 rfl) Try.underlying32 rfl size32v.out ?_) | (go_at_call 46; (with_reducible refine (CN.out _).mono ?_); rintro e w2 ⟨rfl, hb⟩; have hI2 := Aside0.mk (hI.out.below hb); clear hI hb; have hI := hI2; clear hI2))
    refine bodyPost_ret (v := .tuple #[.int .i64 0, .bool false]) (by simp [results, Try.results66, go_sem]) rfl ⟨_, _, isLocal_none fun y _ _ _ => never_none HQ.out.symm y, rfl, hI.out.B⟩
end Go.Proofs.Ytlgdaegaahnkbaa.Tm
