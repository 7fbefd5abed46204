/- A month, a day and a weekday that one schedule allows and the other doesn't: CronDayApart by hand (printed by gen_ab.py). -/
import Derived.Test.YtlgdaegaahnkbaaAliA
namespace Go.Proofs.Ytlgdaegaahnkbaa.Tm
open Go Go.RowKit Cal MC
open Go.Proofs.YtlgdaegaahnkbaaW.PrintWords Go.Proofs.YtlgdaegaahnkbaaW.PrintLast Go.Proofs.YtlgdaegaahnkbaaW.PrintMore
set_option linter.unusedVariables false
set_option linter.unusedSimpArgs false
def V : Bool := true
def F : Bool := false
theorem pA {α : Type} (xs : List α) (i : Nat) (a : α) : xs.toArray.setIfInBounds i a = (xs.set i a).toArray := List.setIfInBounds_toArray xs i a
theorem pZ {α : Type} (a b : α) (l : List α) : (a :: l).set 0 b = b :: l := List.set_cons_zero
theorem pS {α : Type} (a b : α) (l : List α) (n : Nat) : (a :: l).set (n + 1) b = a :: l.set n b := List.set_cons_succ
/-- Whether a schedule allows a day of a month on a weekday. -/
def dO (b : SB) (d v : Int) : Bool := if b.d.testBit 63 || b.w.testBit 63 then bitOf b.d d && bitOf b.w v else bitOf b.d d || bitOf b.w v
def mdOk (b1 b2 : SB) (m d v : Int) : Bool := (bitOf b1.m m && dO b1 d v) != (bitOf b2.m m && dO b2 d v)
def DayPost (b1 b2 : SB) (W : World) (e : Ending) (w' : World) : Prop :=
 ((∃ m d v : Int, (1 ≤ m ∧ m ≤ 12 ∧ 1 ≤ d ∧ d ≤ md 2000 m ∧ 0 ≤ v ∧ v ≤ 6) ∧ mdOk b1 b2 m d v = true ∧ e = .returned (.tuple #[.int .i64 m, .int .i64 d, .int .i64 v, .bool true])) ∨
  ((∀ m d v : Int, 1 ≤ m → m ≤ 12 → 1 ≤ d → d ≤ md 2000 m → 0 ≤ v → v ≤ 6 → mdOk b1 b2 m d v = false) ∧ e = .returned (.tuple #[.int .i64 0, .int .i64 0, .int .i64 0, .bool false]))) ∧ Below W.heap.size W w'
set_option maxHeartbeats 1500000 in
set_option maxRecDepth 100000 in
theorem dayApart_any (b1 b2 : SB) (w : World) : Calls Try.prog 49 #[.agg (fv b1), .agg (fv b2)] w (DayPost b1 b2 w) := by
 have sz1 : Aside0 ((Try.prog.info? 32).map (·.size) = some (fv b1).size) := ⟨by unfold fv; rw [arrB_size]; exact size32⟩
 have sz2v : Aside0 ((Try.prog.info? 32).map (·.size) = some (fv b2).size) := ⟨by unfold fv; rw [arrB_size]; exact size32⟩
 have hI : Aside0 (Blk w [(w.heap.size + 1, fv b2, 32), (w.heap.size, fv b1, 32)] ((w.alloc (.cells (fv b1) 32)).alloc (.cells (fv b2) 32))) := ⟨by
  have := (((Blk.nil w).alloc (fv b1) 32).alloc (fv b2) 32)
  simpa only [World.size_alloc] using this⟩
 go_enter Try.func49, Try.ntmps49
 go_wp2_with fail
 go_loopg [8] 12 (fun gk1 s8 wr1 => ∃ m : Int, s8 = .int .i64 m ∧ Aside0 (Blk w [(w.heap.size + 1, fv b2, 32), (w.heap.size, fv b1, 32)] wr1) ∧ Aside0 (1 ≤ m ∧ m ≤ 13 ∧ ∀ m' d' v', 1 ≤ m' → m' < m → 1 ≤ d' → d' ≤ md 2000 m' → 0 ≤ v' → v' ≤ 6 → mdOk b1 b2 m' d' v' = false) ∧ Aside0 ((13 - m).toNat ≤ gk1))
 case atStart => exact ⟨1, rfl, hI, ⟨by omega, by omega, fun m' d' v' h1 h2 => by omega⟩, ⟨by decide⟩⟩
 case round =>
  clear hI
  obtain ⟨m, rfl, hI, HM, HG1⟩ := hrel
  by_cases hm : m ≤ 12
  ·
   have e1 : decide (m ≤ 12) = true := decide_eq_true hm
   have HMM : Aside0 (1 ≤ m ∧ m ≤ 12) := ⟨HM.out.1, hm⟩
   go_wp2_with fail
   go_loopg [9] (md 2000 m).toNat (fun gk2 s9 wr2 => ∃ d : Int, s9 = .int .i64 d ∧ Aside0 (Blk w [(w.heap.size + 1, fv b2, 32), (w.heap.size, fv b1, 32)] wr2) ∧ Aside0 (1 ≤ d ∧ d ≤ md 2000 m + 1 ∧ ∀ d' v', 1 ≤ d' → d' < d → 0 ≤ v' → v' ≤ 6 → mdOk b1 b2 m d' v' = false) ∧ Aside0 ((md 2000 m + 1 - d).toNat ≤ gk2))
   case atStart => exact ⟨1, rfl, hI, ⟨by omega, by have := md_bd 2000 m; omega, fun d' v' h1 h2 => by omega⟩, ⟨by omega⟩⟩
   case round =>
    clear hI
    obtain ⟨d, rfl, hI, HD, HG2⟩ := hrel
    by_cases hd : d ≤ md 2000 m
    ·
     have e2 : decide (d ≤ md 2000 m) = true := decide_eq_true hd
     have HDD : Aside0 (1 ≤ d ∧ d ≤ md 2000 m) := ⟨HD.out.1, hd⟩
     go_wp2_with (go_at_call 68; (with_reducible refine (monthDays_c 2000 m _ (by decide)).mono ?_); rintro e w9 ⟨rfl, hb⟩; have hI2 := Aside0.mk (hI.out.below hb); clear hI hb; have hI := hI2; clear hI2)
     go_loopg [22] 7 (fun gk3 s22 wr3 => ∃ v : Int, s22 = .int .i64 v ∧ Aside0 (Blk w [(w.heap.size + 1, fv b2, 32), (w.heap.size, fv b1, 32)] wr3) ∧ Aside0 (0 ≤ v ∧ v ≤ 7 ∧ ∀ v', 0 ≤ v' → v' < v → mdOk b1 b2 m d v' = false) ∧ Aside0 ((7 - v).toNat ≤ gk3))
     case atStart => exact ⟨0, rfl, hI, ⟨by omega, by omega, fun v' h1 h2 => by omega⟩, ⟨by decide⟩⟩
     case round =>
      clear hI
      obtain ⟨v, rfl, hI, HV, HG3⟩ := hrel
      by_cases hv : v < 7
      ·
       have e3 : decide (v < 7) = true := decide_eq_true hv
       have HR : Aside0 (1 ≤ m ∧ m ≤ 12 ∧ 1 ≤ d ∧ d ≤ md 2000 m ∧ 0 ≤ v ∧ v ≤ 6) := ⟨by have := HMM.out; have := HDD.out; have := HV.out; omega⟩
       have e9 : wrap64 (v + 1) = v + 1 := w64_in _ (by have := HR.out; omega) (by have := HR.out; omega)
       have hmd := md_bd 2000 m
       have hmr : 1 ≤ m ∧ m ≤ 12 := ⟨HR.out.1, HR.out.2.1⟩
       obtain ⟨qa, hqa⟩ : ∃ q, q = bitOf b1.m m := ⟨_, rfl⟩
       have QA := Aside0.mk hqa
       obtain ⟨qb, hqb⟩ : ∃ q, q = bitOf b2.m m := ⟨_, rfl⟩
       have QB := Aside0.mk hqb
       have hMA : Aside0 (∀ w' : World, w'.heap[w.heap.size]? = some (.cells (fv b1) 32 (0, 0)) → w'.cell? ⟨w.heap.size, 257 + m.toNat, none⟩ = some (.bool qa)) := ⟨fun w' h => by
        rw [hqa]
        have := fv_cell (w := w) (b := b1) h 4 m (by decide) (by show (1 : Int) ≤ m; omega) (by show m ≤ (12 : Int); omega)
        rwa [show 64 * 4 + 1 + m.toNat = 257 + m.toNat by omega] at this⟩
       have hMB : Aside0 (∀ w' : World, w'.heap[w.heap.size + 1]? = some (.cells (fv b2) 32 (0, 0)) → w'.cell? ⟨w.heap.size + 1, 257 + m.toNat, none⟩ = some (.bool qb)) := ⟨fun w' h => by
        rw [hqb, blk_cell h, fv_get b2 _ (by omega)]
        have e := fcell_in b2 4 m (by decide) (by show (1 : Int) ≤ m; omega) (by show m ≤ (12 : Int); omega)
        rw [show 64 * 4 + 1 + m.toNat = 257 + m.toNat by omega] at e
        rw [e]; rfl⟩
       obtain ⟨da, hda⟩ : ∃ q, q = dO b1 d v := ⟨_, rfl⟩
       have DA := Aside0.mk hda
       have DAC : Aside0 (∀ w', Calls Try.prog 38 #[.agg (fv b1), .agg #[.int .i64 2000, .int .i64 m, .int .i64 d], .int .i64 v] w' fun e w'' => e = .returned (.bool da) ∧ Below w'.heap.size w' w'') := ⟨fun w' => by rw [hda]; exact dayFits_any b1 2000 m d v w' HR.out.2.2.1 (by have := HR.out; omega) HR.out.2.2.2.2.1 HR.out.2.2.2.2.2⟩
       obtain ⟨db, hdb⟩ : ∃ q, q = dO b2 d v := ⟨_, rfl⟩
       have DB := Aside0.mk hdb
       have DBC : Aside0 (∀ w', Calls Try.prog 38 #[.agg (fv b2), .agg #[.int .i64 2000, .int .i64 m, .int .i64 d], .int .i64 v] w' fun e w'' => e = .returned (.bool db) ∧ Below w'.heap.size w' w'') := ⟨fun w' => by rw [hdb]; exact dayFits_any b2 2000 m d v w' HR.out.2.2.1 (by have := HR.out; omega) HR.out.2.2.2.2.1 HR.out.2.2.2.2.2⟩
       clear hqa hqb hda hdb hmd
       go_upto_region 11 with fail
       have hI2 := Aside0.mk (hI.out.alloc #[.int .i64 2000, .int .i64 m, .int .i64 d] 80)
       clear hI
       have hI := hI2
       clear hI2
       generalize hga : World.alloc _ _ = w1 at hI ⊢
       clear hga
       generalize hgb : wr.heap.size = g1 at hI ⊢
       clear hgb
       refine start_ (n := 23) (S := Blk w [(g1, #[.int .i64 2000, .int .i64 m, .int .i64 d], 80), (w.heap.size + 1, fv b2, 32), (w.heap.size, fv b1, 32)]) (ds := []) #[F, F, F, F, F, F, F, F, F, F, F, F, F, F, F, F, F, F, F, F, F, F, F] (by kernel_rfl) rfl rfl (hI.out.drew) (fun hHeld => ?_)
       have hI2 := Aside0.mk hI.out.drew
       clear hI
       have hI := hI2
       clear hI2
       generalize hwd : World.drew _ = wdr at hI hHeld ⊢
       clear hwd
       refine pure_ (i := 0) (N := (some 28)) (v := ?_) (a' := ?_) #[V, F, F, F, F, F, F, F, F, F, F, F, F, F, F, F, F, F, F, F, F, F, F] rfl rfl (by kernel_rfl) (fun _ _ _ h => h) (Or.inl ⟨by rfl, ?_⟩) ?_ ?_
       rotate_left
       ·
        intro w'; go_simp; with_reducible rfl
       rotate_left
       ·
        simp only [Act.put, pA, pZ, pS, i64_w, i32_w]; rfl
       refine pure_ (i := 1) (N := (some 29)) (v := ?_) (a' := ?_) #[V, V, F, F, F, F, F, F, F, F, F, F, F, F, F, F, F, F, F, F, F, F, F] rfl rfl (by kernel_rfl) (fun _ _ _ h => h) (Or.inl ⟨by rfl, ?_⟩) ?_ ?_
       rotate_left
       ·
        intro w'; go_simp; with_reducible rfl
       rotate_left
       ·
        simp only [Act.put, pA, pZ, pS, i64_w, i32_w]; rfl
       refine pure_ (i := 2) (N := (some 30)) (v := ?_) (a' := ?_) #[V, V, V, F, F, F, F, F, F, F, F, F, F, F, F, F, F, F, F, F, F, F, F] rfl rfl (by kernel_rfl) (fun _ _ _ h => h) (Or.inl ⟨by rfl, ?_⟩) ?_ ?_
       rotate_left
       ·
        intro w'; go_simp; with_reducible rfl
       rotate_left
       ·
        simp only [Act.put, pA, pZ, pS, i64_w, i32_w]; rfl
       refine pure_ (i := 3) (N := (some 31)) (v := ?_) (a' := ?_) #[V, V, V, V, F, F, F, F, F, F, F, F, F, F, F, F, F, F, F, F, F, F, F] rfl rfl (by kernel_rfl) (fun _ _ _ h => h) (Or.inl ⟨by rfl, ?_⟩) ?_ ?_
       rotate_left
       ·
        intro w'; go_simp; rw [if_pos (by omega)]
       rotate_left
       ·
        simp only [Act.put, pA, pZ, pS, i64_w, i32_w]; rfl
       refine take_ (i := 4) (N := (some 32)) (v := ?_) (a' := ?_) #[V, V, V, V, V, F, F, F, F, F, F, F, F, F, F, F, F, F, F, F, F, F, F] rfl rfl (by kernel_rfl) (fun _ _ _ h => h) (Or.inl ⟨by rfl, ?_⟩) hHeld ?_ ?_
       rotate_left
       ·
        intro w' hS
        have cc := hMA.out w' (hS.get 2 rfl); go_simp; with_reducible rfl
       rotate_left
       ·
        simp only [Act.put, pA, pZ, pS, i64_w, i32_w]; rfl
       refine pure_ (i := 5) (N := (some 33)) (v := ?_) (a' := ?_) #[V, V, V, V, V, V, F, F, F, F, F, F, F, F, F, F, F, F, F, F, F, F, F] rfl rfl (by kernel_rfl) (fun _ _ _ h => h) (Or.inl ⟨by rfl, ?_⟩) ?_ ?_
       rotate_left
       ·
        intro w'; go_simp; with_reducible rfl
       rotate_left
       ·
        simp only [Act.put, pA, pZ, pS, i64_w, i32_w]; rfl
       cases qa
       ·
        refine take_ (i := 6) (N := (some 34)) (v := undef) (a' := ?_) #[V, V, V, V, V, V, V, F, F, F, F, F, F, F, F, F, F, F, F, F, F, F, F] rfl rfl (by kernel_rfl) (fun _ _ _ h => h) (Or.inr ⟨by rfl, rfl⟩) hHeld ?_ ?_
        rotate_left
        ·
         simp only [Act.put, pA, pZ, pS, i64_w, i32_w]; rfl
        refine take_ (i := 7) (N := (some 35)) (v := undef) (a' := ?_) #[V, V, V, V, V, V, V, V, F, F, F, F, F, F, F, F, F, F, F, F, F, F, F] rfl rfl (by kernel_rfl) (fun _ _ _ h => h) (Or.inr ⟨by rfl, rfl⟩) hHeld ?_ ?_
        rotate_left
        ·
         simp only [Act.put, pA, pZ, pS, i64_w, i32_w]; rfl
        refine pure_ (i := 8) (N := (some 36)) (v := undef) (a' := ?_) #[V, V, V, V, V, V, V, V, V, F, F, F, F, F, F, F, F, F, F, F, F, F, F] rfl rfl (by kernel_rfl) (fun _ _ _ h => h) (Or.inr ⟨by rfl, rfl⟩) ?_ ?_
        rotate_left
        ·
         simp only [Act.put, pA, pZ, pS, i64_w, i32_w]; rfl
        refine pure_ (i := 11) (N := (some 39)) (v := ?_) (a' := ?_) #[V, V, V, V, V, V, V, V, V, F, F, V, F, F, F, F, F, F, F, F, F, F, F] rfl rfl (by kernel_rfl) (fun _ _ _ h => h) (Or.inl ⟨by rfl, ?_⟩) ?_ ?_
        rotate_left
        ·
         intro w'; go_simp; with_reducible rfl
        rotate_left
        ·
         simp only [Act.put, pA, pZ, pS, i64_w, i32_w]; rfl
        refine pure_ (i := 12) (N := (some 40)) (v := ?_) (a' := ?_) #[V, V, V, V, V, V, V, V, V, F, F, V, V, F, F, F, F, F, F, F, F, F, F] rfl rfl (by kernel_rfl) (fun _ _ _ h => h) (Or.inl ⟨by rfl, ?_⟩) ?_ ?_
        rotate_left
        ·
         intro w'; go_simp; with_reducible rfl
        rotate_left
        ·
         simp only [Act.put, pA, pZ, pS, i64_w, i32_w]; rfl
        refine pure_ (i := 13) (N := (some 41)) (v := ?_) (a' := ?_) #[V, V, V, V, V, V, V, V, V, F, F, V, V, V, F, F, F, F, F, F, F, F, F] rfl rfl (by kernel_rfl) (fun _ _ _ h => h) (Or.inl ⟨by rfl, ?_⟩) ?_ ?_
        rotate_left
        ·
         intro w'; go_simp; with_reducible rfl
        rotate_left
        ·
         simp only [Act.put, pA, pZ, pS, i64_w, i32_w]; rfl
        refine pure_ (i := 14) (N := (some 42)) (v := ?_) (a' := ?_) #[V, V, V, V, V, V, V, V, V, F, F, V, V, V, V, F, F, F, F, F, F, F, F] rfl rfl (by kernel_rfl) (fun _ _ _ h => h) (Or.inl ⟨by rfl, ?_⟩) ?_ ?_
        rotate_left
        ·
         intro w'; go_simp; rw [if_pos (by omega)]
        rotate_left
        ·
         simp only [Act.put, pA, pZ, pS, i64_w, i32_w]; rfl
        refine take_ (i := 15) (N := (some 43)) (v := ?_) (a' := ?_) #[V, V, V, V, V, V, V, V, V, F, F, V, V, V, V, V, F, F, F, F, F, F, F] rfl rfl (by kernel_rfl) (fun _ _ _ h => h) (Or.inl ⟨by rfl, ?_⟩) hHeld ?_ ?_
        rotate_left
        ·
         intro w' hS
         have cc := hMB.out w' (hS.get 1 rfl); go_simp; with_reducible rfl
        rotate_left
        ·
         simp only [Act.put, pA, pZ, pS, i64_w, i32_w]; rfl
        refine one_ (i := 9) (N := (some 37)) #[V, V, V, V, V, V, V, V, V, V, F, V, V, V, V, V, F, F, F, F, F, F, F] rfl rfl (by kernel_rfl) (by decide) (fun K hK => ?_)
        refine off_ (by rfl) (hK.out _ _ hHeld (fun hHeld => ?_))
        clear hK K; refine norm_ (a' := ?_) ?_ ?_; rotate_left
        ·
         show Act.put _ (some 37) _ = _; simp only [Act.put, pA, pZ, pS, i64_w, i32_w]; rfl
        refine pure_ (i := 10) (N := (some 38)) (v := ?_) (a' := ?_) #[V, V, V, V, V, V, V, V, V, V, V, V, V, V, V, V, F, F, F, F, F, F, F] rfl rfl (by kernel_rfl) (fun _ _ _ h => h) (Or.inl ⟨by rfl, ?_⟩) ?_ ?_
        rotate_left
        ·
         intro w'; go_simp; with_reducible rfl
        rotate_left
        ·
         simp only [Act.put, pA, pZ, pS, i64_w, i32_w]; rfl
        refine pure_ (i := 16) (N := (some 44)) (v := ?_) (a' := ?_) #[V, V, V, V, V, V, V, V, V, V, V, V, V, V, V, V, V, F, F, F, F, F, F] rfl rfl (by kernel_rfl) (fun _ _ _ h => h) (Or.inl ⟨by rfl, ?_⟩) ?_ ?_
        rotate_left
        ·
         intro w'; go_simp; with_reducible rfl
        rotate_left
        ·
         simp only [Act.put, pA, pZ, pS, i64_w, i32_w]; rfl
        cases qb
        ·
         refine take_ (i := 17) (N := (some 45)) (v := undef) (a' := ?_) #[V, V, V, V, V, V, V, V, V, V, V, V, V, V, V, V, V, V, F, F, F, F, F] rfl rfl (by kernel_rfl) (fun _ _ _ h => h) (Or.inr ⟨by rfl, rfl⟩) hHeld ?_ ?_
         rotate_left
         ·
          simp only [Act.put, pA, pZ, pS, i64_w, i32_w]; rfl
         refine take_ (i := 18) (N := (some 46)) (v := undef) (a' := ?_) #[V, V, V, V, V, V, V, V, V, V, V, V, V, V, V, V, V, V, V, F, F, F, F] rfl rfl (by kernel_rfl) (fun _ _ _ h => h) (Or.inr ⟨by rfl, rfl⟩) hHeld ?_ ?_
         rotate_left
         ·
          simp only [Act.put, pA, pZ, pS, i64_w, i32_w]; rfl
         refine pure_ (i := 19) (N := (some 47)) (v := undef) (a' := ?_) #[V, V, V, V, V, V, V, V, V, V, V, V, V, V, V, V, V, V, V, V, F, F, F] rfl rfl (by kernel_rfl) (fun _ _ _ h => h) (Or.inr ⟨by rfl, rfl⟩) ?_ ?_
         rotate_left
         ·
          simp only [Act.put, pA, pZ, pS, i64_w, i32_w]; rfl
         refine one_ (i := 20) (N := (some 48)) #[V, V, V, V, V, V, V, V, V, V, V, V, V, V, V, V, V, V, V, V, V, F, F] rfl rfl (by kernel_rfl) (by decide) (fun K hK => ?_)
         refine off_ (by rfl) (hK.out _ _ hHeld (fun hHeld => ?_))
         clear hK K; refine norm_ (a' := ?_) ?_ ?_; rotate_left
         ·
          show Act.put _ (some 48) _ = _; simp only [Act.put, pA, pZ, pS, i64_w, i32_w]; rfl
         refine pure_ (i := 21) (N := (some 49)) (v := ?_) (a' := ?_) #[V, V, V, V, V, V, V, V, V, V, V, V, V, V, V, V, V, V, V, V, V, V, F] rfl rfl (by kernel_rfl) (fun _ _ _ h => h) (Or.inl ⟨by rfl, ?_⟩) ?_ ?_
         rotate_left
         ·
          intro w'; go_simp; with_reducible rfl
         rotate_left
         ·
          simp only [Act.put, pA, pZ, pS, i64_w, i32_w]; rfl
         refine pure_ (i := 22) (N := (some 50)) (v := ?_) (a' := ?_) #[V, V, V, V, V, V, V, V, V, V, V, V, V, V, V, V, V, V, V, V, V, V, V] rfl rfl (by kernel_rfl) (fun _ _ _ h => h) (Or.inl ⟨by rfl, ?_⟩) ?_ ?_
         rotate_left
         ·
          intro w'; go_simp; with_reducible rfl
         rotate_left
         ·
          simp only [Act.put, pA, pZ, pS, i64_w, i32_w]; rfl
         refine done_ (by kernel_rfl) ?_
         cases da
         ·
          cases db
          ·
           go_wp2_with fail
           have hI2 := Aside0.mk hI.out.tail
           clear hI
           have hI := hI2
           clear hI2
           go_roundg (7 - (v + 1)).toNat
           case measure => have := HG3.out; have := HR.out; omega
           case rel => exact ⟨v + 1, by first | rfl | (rw [e9]) | (rw [e8]) | (rw [e7]) | go_num, hI, ⟨by have := HR.out; omega, by have := HR.out; omega, fun v' h1 h2 => by
            rcases Int.lt_or_eq_of_le (show v' ≤ v by omega) with c | c
            ·
             exact HV.out.2.2 v' h1 c
            ·
             rw [c]; unfold mdOk; rw [← QA.out, ← QB.out, ← DA.out, ← DB.out]; decide⟩, ⟨Nat.le_refl _⟩⟩
          ·
           go_wp2_with fail
           have hI2 := Aside0.mk hI.out.tail
           clear hI
           have hI := hI2
           clear hI2
           go_roundg (7 - (v + 1)).toNat
           case measure => have := HG3.out; have := HR.out; omega
           case rel => exact ⟨v + 1, by first | rfl | (rw [e9]) | (rw [e8]) | (rw [e7]) | go_num, hI, ⟨by have := HR.out; omega, by have := HR.out; omega, fun v' h1 h2 => by
            rcases Int.lt_or_eq_of_le (show v' ≤ v by omega) with c | c
            ·
             exact HV.out.2.2 v' h1 c
            ·
             rw [c]; unfold mdOk; rw [← QA.out, ← QB.out, ← DA.out, ← DB.out]; decide⟩, ⟨Nat.le_refl _⟩⟩
         ·
          cases db
          ·
           go_wp2_with fail
           have hI2 := Aside0.mk hI.out.tail
           clear hI
           have hI := hI2
           clear hI2
           go_roundg (7 - (v + 1)).toNat
           case measure => have := HG3.out; have := HR.out; omega
           case rel => exact ⟨v + 1, by first | rfl | (rw [e9]) | (rw [e8]) | (rw [e7]) | go_num, hI, ⟨by have := HR.out; omega, by have := HR.out; omega, fun v' h1 h2 => by
            rcases Int.lt_or_eq_of_le (show v' ≤ v by omega) with c | c
            ·
             exact HV.out.2.2 v' h1 c
            ·
             rw [c]; unfold mdOk; rw [← QA.out, ← QB.out, ← DA.out, ← DB.out]; decide⟩, ⟨Nat.le_refl _⟩⟩
          ·
           go_wp2_with fail
           have hI2 := Aside0.mk hI.out.tail
           clear hI
           have hI := hI2
           clear hI2
           go_roundg (7 - (v + 1)).toNat
           case measure => have := HG3.out; have := HR.out; omega
           case rel => exact ⟨v + 1, by first | rfl | (rw [e9]) | (rw [e8]) | (rw [e7]) | go_num, hI, ⟨by have := HR.out; omega, by have := HR.out; omega, fun v' h1 h2 => by
            rcases Int.lt_or_eq_of_le (show v' ≤ v by omega) with c | c
            ·
             exact HV.out.2.2 v' h1 c
            ·
             rw [c]; unfold mdOk; rw [← QA.out, ← QB.out, ← DA.out, ← DB.out]; decide⟩, ⟨Nat.le_refl _⟩⟩
        ·
         refine take_ (i := 17) (N := (some 45)) (v := ?_) (a' := ?_) #[V, V, V, V, V, V, V, V, V, V, V, V, V, V, V, V, V, V, F, F, F, F, F] rfl rfl (by kernel_rfl) (fun _ _ _ h => h) (Or.inl ⟨by rfl, ?_⟩) hHeld ?_ ?_
         rotate_left
         ·
          intro w' hS
          refine exec_load_row 32 (.tmp 3) ?_ (w.heap.size + 1) ?_ 32 _ _ (hS.get 1 rfl) Try.underlying32 rfl sz2v.out
          ·
           rfl
          ·
           rfl
         rotate_left
         ·
          simp only [Act.put, pA, pZ, pS, i64_w, i32_w]; rfl
         refine take_ (i := 18) (N := (some 46)) (v := ?_) (a' := ?_) #[V, V, V, V, V, V, V, V, V, V, V, V, V, V, V, V, V, V, V, F, F, F, F] rfl rfl (by kernel_rfl) (fun _ _ _ h => h) (Or.inl ⟨by rfl, ?_⟩) hHeld ?_ ?_
         rotate_left
         ·
          intro w' hS
          refine exec_load_row 80 (.tmp 11) ?_ g1 ?_ 80 _ _ (hS.get 0 rfl) Try.underlying80 rfl size80
          ·
           rfl
          ·
           rfl
         rotate_left
         ·
          simp only [Act.put, pA, pZ, pS, i64_w, i32_w]; rfl
         refine pure_ (i := 19) (N := (some 47)) (v := ?_) (a' := ?_) #[V, V, V, V, V, V, V, V, V, V, V, V, V, V, V, V, V, V, V, V, F, F, F] rfl rfl (by kernel_rfl) (fun _ _ _ h => h) (Or.inl ⟨by rfl, ?_⟩) ?_ ?_
         rotate_left
         ·
          intro w'; go_simp; with_reducible rfl
         rotate_left
         ·
          simp only [Act.put, pA, pZ, pS, i64_w, i32_w]; rfl
         refine one_ (i := 20) (N := (some 48)) #[V, V, V, V, V, V, V, V, V, V, V, V, V, V, V, V, V, V, V, V, V, F, F] rfl rfl (by kernel_rfl) (by decide) (fun K hK => ?_)
         refine goes_ Try.func38 (by kernel_rfl) rfl #[.agg (fv b2), .agg #[.int .i64 2000, .int .i64 m, .int .i64 d], .int .i64 v] (by rfl) rfl rfl (by (try simp only [List.map_toArray, List.map_cons, List.map_nil]); first | done | rfl) ?_
         refine (DBC.out _).mono ?_
         rintro e w20 ⟨rfl, hb⟩
         refine ⟨_, rfl, ?_⟩
         have hI2 := Aside0.mk (hI.out.below hb)
         clear hI hb
         have hI := hI2
         clear hI2
         refine hK.out _ _ (hI.out) (fun hHeld => ?_)
         clear hK K; refine norm_ (a' := ?_) ?_ ?_; rotate_left
         ·
          show Act.put _ (some 48) _ = _; simp only [Act.put, pA, pZ, pS, i64_w, i32_w]; rfl
         refine pure_ (i := 21) (N := (some 49)) (v := ?_) (a' := ?_) #[V, V, V, V, V, V, V, V, V, V, V, V, V, V, V, V, V, V, V, V, V, V, F] rfl rfl (by kernel_rfl) (fun _ _ _ h => h) (Or.inl ⟨by rfl, ?_⟩) ?_ ?_
         rotate_left
         ·
          intro w'; go_simp; with_reducible rfl
         rotate_left
         ·
          simp only [Act.put, pA, pZ, pS, i64_w, i32_w]; rfl
         refine pure_ (i := 22) (N := (some 50)) (v := ?_) (a' := ?_) #[V, V, V, V, V, V, V, V, V, V, V, V, V, V, V, V, V, V, V, V, V, V, V] rfl rfl (by kernel_rfl) (fun _ _ _ h => h) (Or.inl ⟨by rfl, ?_⟩) ?_ ?_
         rotate_left
         ·
          intro w'; go_simp; with_reducible rfl
         rotate_left
         ·
          simp only [Act.put, pA, pZ, pS, i64_w, i32_w]; rfl
         refine done_ (by kernel_rfl) ?_
         cases da
         ·
          cases db
          ·
           go_wp2_with fail
           have hI2 := Aside0.mk hI.out.tail
           clear hI
           have hI := hI2
           clear hI2
           go_roundg (7 - (v + 1)).toNat
           case measure => have := HG3.out; have := HR.out; omega
           case rel => exact ⟨v + 1, by first | rfl | (rw [e9]) | (rw [e8]) | (rw [e7]) | go_num, hI, ⟨by have := HR.out; omega, by have := HR.out; omega, fun v' h1 h2 => by
            rcases Int.lt_or_eq_of_le (show v' ≤ v by omega) with c | c
            ·
             exact HV.out.2.2 v' h1 c
            ·
             rw [c]; unfold mdOk; rw [← QA.out, ← QB.out, ← DA.out, ← DB.out]; decide⟩, ⟨Nat.le_refl _⟩⟩
          ·
           go_wp2_with fail
           exact bodyPost_ret (v := .tuple #[.int .i64 m, .int .i64 d, .int .i64 v, .bool true]) (by simp [results, Try.results49, go_sem]) rfl ⟨Or.inl ⟨m, d, v, HR.out, by unfold mdOk; rw [← QA.out, ← QB.out, ← DA.out, ← DB.out]; decide, rfl⟩, hI.out.B⟩
         ·
          cases db
          ·
           go_wp2_with fail
           have hI2 := Aside0.mk hI.out.tail
           clear hI
           have hI := hI2
           clear hI2
           go_roundg (7 - (v + 1)).toNat
           case measure => have := HG3.out; have := HR.out; omega
           case rel => exact ⟨v + 1, by first | rfl | (rw [e9]) | (rw [e8]) | (rw [e7]) | go_num, hI, ⟨by have := HR.out; omega, by have := HR.out; omega, fun v' h1 h2 => by
            rcases Int.lt_or_eq_of_le (show v' ≤ v by omega) with c | c
            ·
             exact HV.out.2.2 v' h1 c
            ·
             rw [c]; unfold mdOk; rw [← QA.out, ← QB.out, ← DA.out, ← DB.out]; decide⟩, ⟨Nat.le_refl _⟩⟩
          ·
           go_wp2_with fail
           exact bodyPost_ret (v := .tuple #[.int .i64 m, .int .i64 d, .int .i64 v, .bool true]) (by simp [results, Try.results49, go_sem]) rfl ⟨Or.inl ⟨m, d, v, HR.out, by unfold mdOk; rw [← QA.out, ← QB.out, ← DA.out, ← DB.out]; decide, rfl⟩, hI.out.B⟩
       ·
        refine take_ (i := 6) (N := (some 34)) (v := ?_) (a' := ?_) #[V, V, V, V, V, V, V, F, F, F, F, F, F, F, F, F, F, F, F, F, F, F, F] rfl rfl (by kernel_rfl) (fun _ _ _ h => h) (Or.inl ⟨by rfl, ?_⟩) hHeld ?_ ?_
        rotate_left
        ·
         intro w' hS
         refine exec_load_row 32 (.tmp 2) ?_ (w.heap.size) ?_ 32 _ _ (hS.get 2 rfl) Try.underlying32 rfl sz1.out
         ·
          rfl
         ·
          rfl
        rotate_left
        ·
         simp only [Act.put, pA, pZ, pS, i64_w, i32_w]; rfl
        refine take_ (i := 7) (N := (some 35)) (v := ?_) (a' := ?_) #[V, V, V, V, V, V, V, V, F, F, F, F, F, F, F, F, F, F, F, F, F, F, F] rfl rfl (by kernel_rfl) (fun _ _ _ h => h) (Or.inl ⟨by rfl, ?_⟩) hHeld ?_ ?_
        rotate_left
        ·
         intro w' hS
         refine exec_load_row 80 (.tmp 11) ?_ g1 ?_ 80 _ _ (hS.get 0 rfl) Try.underlying80 rfl size80
         ·
          rfl
         ·
          rfl
        rotate_left
        ·
         simp only [Act.put, pA, pZ, pS, i64_w, i32_w]; rfl
        refine pure_ (i := 8) (N := (some 36)) (v := ?_) (a' := ?_) #[V, V, V, V, V, V, V, V, V, F, F, F, F, F, F, F, F, F, F, F, F, F, F] rfl rfl (by kernel_rfl) (fun _ _ _ h => h) (Or.inl ⟨by rfl, ?_⟩) ?_ ?_
        rotate_left
        ·
         intro w'; go_simp; with_reducible rfl
        rotate_left
        ·
         simp only [Act.put, pA, pZ, pS, i64_w, i32_w]; rfl
        refine pure_ (i := 11) (N := (some 39)) (v := ?_) (a' := ?_) #[V, V, V, V, V, V, V, V, V, F, F, V, F, F, F, F, F, F, F, F, F, F, F] rfl rfl (by kernel_rfl) (fun _ _ _ h => h) (Or.inl ⟨by rfl, ?_⟩) ?_ ?_
        rotate_left
        ·
         intro w'; go_simp; with_reducible rfl
        rotate_left
        ·
         simp only [Act.put, pA, pZ, pS, i64_w, i32_w]; rfl
        refine pure_ (i := 12) (N := (some 40)) (v := ?_) (a' := ?_) #[V, V, V, V, V, V, V, V, V, F, F, V, V, F, F, F, F, F, F, F, F, F, F] rfl rfl (by kernel_rfl) (fun _ _ _ h => h) (Or.inl ⟨by rfl, ?_⟩) ?_ ?_
        rotate_left
        ·
         intro w'; go_simp; with_reducible rfl
        rotate_left
        ·
         simp only [Act.put, pA, pZ, pS, i64_w, i32_w]; rfl
        refine pure_ (i := 13) (N := (some 41)) (v := ?_) (a' := ?_) #[V, V, V, V, V, V, V, V, V, F, F, V, V, V, F, F, F, F, F, F, F, F, F] rfl rfl (by kernel_rfl) (fun _ _ _ h => h) (Or.inl ⟨by rfl, ?_⟩) ?_ ?_
        rotate_left
        ·
         intro w'; go_simp; with_reducible rfl
        rotate_left
        ·
         simp only [Act.put, pA, pZ, pS, i64_w, i32_w]; rfl
        refine pure_ (i := 14) (N := (some 42)) (v := ?_) (a' := ?_) #[V, V, V, V, V, V, V, V, V, F, F, V, V, V, V, F, F, F, F, F, F, F, F] rfl rfl (by kernel_rfl) (fun _ _ _ h => h) (Or.inl ⟨by rfl, ?_⟩) ?_ ?_
        rotate_left
        ·
         intro w'; go_simp; rw [if_pos (by omega)]
        rotate_left
        ·
         simp only [Act.put, pA, pZ, pS, i64_w, i32_w]; rfl
        refine take_ (i := 15) (N := (some 43)) (v := ?_) (a' := ?_) #[V, V, V, V, V, V, V, V, V, F, F, V, V, V, V, V, F, F, F, F, F, F, F] rfl rfl (by kernel_rfl) (fun _ _ _ h => h) (Or.inl ⟨by rfl, ?_⟩) hHeld ?_ ?_
        rotate_left
        ·
         intro w' hS
         have cc := hMB.out w' (hS.get 1 rfl); go_simp; with_reducible rfl
        rotate_left
        ·
         simp only [Act.put, pA, pZ, pS, i64_w, i32_w]; rfl
        refine one_ (i := 9) (N := (some 37)) #[V, V, V, V, V, V, V, V, V, V, F, V, V, V, V, V, F, F, F, F, F, F, F] rfl rfl (by kernel_rfl) (by decide) (fun K hK => ?_)
        refine goes_ Try.func38 (by kernel_rfl) rfl #[.agg (fv b1), .agg #[.int .i64 2000, .int .i64 m, .int .i64 d], .int .i64 v] (by rfl) rfl rfl (by (try simp only [List.map_toArray, List.map_cons, List.map_nil]); first | done | rfl) ?_
        refine (DAC.out _).mono ?_
        rintro e w9 ⟨rfl, hb⟩
        refine ⟨_, rfl, ?_⟩
        have hI2 := Aside0.mk (hI.out.below hb)
        clear hI hb
        have hI := hI2
        clear hI2
        refine hK.out _ _ (hI.out) (fun hHeld => ?_)
        clear hK K; refine norm_ (a' := ?_) ?_ ?_; rotate_left
        ·
         show Act.put _ (some 37) _ = _; simp only [Act.put, pA, pZ, pS, i64_w, i32_w]; rfl
        refine pure_ (i := 10) (N := (some 38)) (v := ?_) (a' := ?_) #[V, V, V, V, V, V, V, V, V, V, V, V, V, V, V, V, F, F, F, F, F, F, F] rfl rfl (by kernel_rfl) (fun _ _ _ h => h) (Or.inl ⟨by rfl, ?_⟩) ?_ ?_
        rotate_left
        ·
         intro w'; go_simp; with_reducible rfl
        rotate_left
        ·
         simp only [Act.put, pA, pZ, pS, i64_w, i32_w]; rfl
        refine pure_ (i := 16) (N := (some 44)) (v := ?_) (a' := ?_) #[V, V, V, V, V, V, V, V, V, V, V, V, V, V, V, V, V, F, F, F, F, F, F] rfl rfl (by kernel_rfl) (fun _ _ _ h => h) (Or.inl ⟨by rfl, ?_⟩) ?_ ?_
        rotate_left
        ·
         intro w'; go_simp; with_reducible rfl
        rotate_left
        ·
         simp only [Act.put, pA, pZ, pS, i64_w, i32_w]; rfl
        cases qb
        ·
         refine take_ (i := 17) (N := (some 45)) (v := undef) (a' := ?_) #[V, V, V, V, V, V, V, V, V, V, V, V, V, V, V, V, V, V, F, F, F, F, F] rfl rfl (by kernel_rfl) (fun _ _ _ h => h) (Or.inr ⟨by rfl, rfl⟩) hHeld ?_ ?_
         rotate_left
         ·
          simp only [Act.put, pA, pZ, pS, i64_w, i32_w]; rfl
         refine take_ (i := 18) (N := (some 46)) (v := undef) (a' := ?_) #[V, V, V, V, V, V, V, V, V, V, V, V, V, V, V, V, V, V, V, F, F, F, F] rfl rfl (by kernel_rfl) (fun _ _ _ h => h) (Or.inr ⟨by rfl, rfl⟩) hHeld ?_ ?_
         rotate_left
         ·
          simp only [Act.put, pA, pZ, pS, i64_w, i32_w]; rfl
         refine pure_ (i := 19) (N := (some 47)) (v := undef) (a' := ?_) #[V, V, V, V, V, V, V, V, V, V, V, V, V, V, V, V, V, V, V, V, F, F, F] rfl rfl (by kernel_rfl) (fun _ _ _ h => h) (Or.inr ⟨by rfl, rfl⟩) ?_ ?_
         rotate_left
         ·
          simp only [Act.put, pA, pZ, pS, i64_w, i32_w]; rfl
         refine one_ (i := 20) (N := (some 48)) #[V, V, V, V, V, V, V, V, V, V, V, V, V, V, V, V, V, V, V, V, V, F, F] rfl rfl (by kernel_rfl) (by decide) (fun K hK => ?_)
         refine off_ (by rfl) (hK.out _ _ hHeld (fun hHeld => ?_))
         clear hK K; refine norm_ (a' := ?_) ?_ ?_; rotate_left
         ·
          show Act.put _ (some 48) _ = _; simp only [Act.put, pA, pZ, pS, i64_w, i32_w]; rfl
         refine pure_ (i := 21) (N := (some 49)) (v := ?_) (a' := ?_) #[V, V, V, V, V, V, V, V, V, V, V, V, V, V, V, V, V, V, V, V, V, V, F] rfl rfl (by kernel_rfl) (fun _ _ _ h => h) (Or.inl ⟨by rfl, ?_⟩) ?_ ?_
         rotate_left
         ·
          intro w'; go_simp; with_reducible rfl
         rotate_left
         ·
          simp only [Act.put, pA, pZ, pS, i64_w, i32_w]; rfl
         refine pure_ (i := 22) (N := (some 50)) (v := ?_) (a' := ?_) #[V, V, V, V, V, V, V, V, V, V, V, V, V, V, V, V, V, V, V, V, V, V, V] rfl rfl (by kernel_rfl) (fun _ _ _ h => h) (Or.inl ⟨by rfl, ?_⟩) ?_ ?_
         rotate_left
         ·
          intro w'; go_simp; with_reducible rfl
         rotate_left
         ·
          simp only [Act.put, pA, pZ, pS, i64_w, i32_w]; rfl
         refine done_ (by kernel_rfl) ?_
         cases da
         ·
          cases db
          ·
           go_wp2_with fail
           have hI2 := Aside0.mk hI.out.tail
           clear hI
           have hI := hI2
           clear hI2
           go_roundg (7 - (v + 1)).toNat
           case measure => have := HG3.out; have := HR.out; omega
           case rel => exact ⟨v + 1, by first | rfl | (rw [e9]) | (rw [e8]) | (rw [e7]) | go_num, hI, ⟨by have := HR.out; omega, by have := HR.out; omega, fun v' h1 h2 => by
            rcases Int.lt_or_eq_of_le (show v' ≤ v by omega) with c | c
            ·
             exact HV.out.2.2 v' h1 c
            ·
             rw [c]; unfold mdOk; rw [← QA.out, ← QB.out, ← DA.out, ← DB.out]; decide⟩, ⟨Nat.le_refl _⟩⟩
          ·
           go_wp2_with fail
           have hI2 := Aside0.mk hI.out.tail
           clear hI
           have hI := hI2
           clear hI2
           go_roundg (7 - (v + 1)).toNat
           case measure => have := HG3.out; have := HR.out; omega
           case rel => exact ⟨v + 1, by first | rfl | (rw [e9]) | (rw [e8]) | (rw [e7]) | go_num, hI, ⟨by have := HR.out; omega, by have := HR.out; omega, fun v' h1 h2 => by
            rcases Int.lt_or_eq_of_le (show v' ≤ v by omega) with c | c
            ·
             exact HV.out.2.2 v' h1 c
            ·
             rw [c]; unfold mdOk; rw [← QA.out, ← QB.out, ← DA.out, ← DB.out]; decide⟩, ⟨Nat.le_refl _⟩⟩
         ·
          cases db
          ·
           go_wp2_with fail
           exact bodyPost_ret (v := .tuple #[.int .i64 m, .int .i64 d, .int .i64 v, .bool true]) (by simp [results, Try.results49, go_sem]) rfl ⟨Or.inl ⟨m, d, v, HR.out, by unfold mdOk; rw [← QA.out, ← QB.out, ← DA.out, ← DB.out]; decide, rfl⟩, hI.out.B⟩
          ·
           go_wp2_with fail
           exact bodyPost_ret (v := .tuple #[.int .i64 m, .int .i64 d, .int .i64 v, .bool true]) (by simp [results, Try.results49, go_sem]) rfl ⟨Or.inl ⟨m, d, v, HR.out, by unfold mdOk; rw [← QA.out, ← QB.out, ← DA.out, ← DB.out]; decide, rfl⟩, hI.out.B⟩
        ·
         refine take_ (i := 17) (N := (some 45)) (v := ?_) (a' := ?_) #[V, V, V, V, V, V, V, V, V, V, V, V, V, V, V, V, V, V, F, F, F, F, F] rfl rfl (by kernel_rfl) (fun _ _ _ h => h) (Or.inl ⟨by rfl, ?_⟩) hHeld ?_ ?_
         rotate_left
         ·
          intro w' hS
          refine exec_load_row 32 (.tmp 3) ?_ (w.heap.size + 1) ?_ 32 _ _ (hS.get 1 rfl) Try.underlying32 rfl sz2v.out
          ·
           rfl
          ·
           rfl
         rotate_left
         ·
          simp only [Act.put, pA, pZ, pS, i64_w, i32_w]; rfl
         refine take_ (i := 18) (N := (some 46)) (v := ?_) (a' := ?_) #[V, V, V, V, V, V, V, V, V, V, V, V, V, V, V, V, V, V, V, F, F, F, F] rfl rfl (by kernel_rfl) (fun _ _ _ h => h) (Or.inl ⟨by rfl, ?_⟩) hHeld ?_ ?_
         rotate_left
         ·
          intro w' hS
          refine exec_load_row 80 (.tmp 11) ?_ g1 ?_ 80 _ _ (hS.get 0 rfl) Try.underlying80 rfl size80
          ·
           rfl
          ·
           rfl
         rotate_left
         ·
          simp only [Act.put, pA, pZ, pS, i64_w, i32_w]; rfl
         refine pure_ (i := 19) (N := (some 47)) (v := ?_) (a' := ?_) #[V, V, V, V, V, V, V, V, V, V, V, V, V, V, V, V, V, V, V, V, F, F, F] rfl rfl (by kernel_rfl) (fun _ _ _ h => h) (Or.inl ⟨by rfl, ?_⟩) ?_ ?_
         rotate_left
         ·
          intro w'; go_simp; with_reducible rfl
         rotate_left
         ·
          simp only [Act.put, pA, pZ, pS, i64_w, i32_w]; rfl
         refine one_ (i := 20) (N := (some 48)) #[V, V, V, V, V, V, V, V, V, V, V, V, V, V, V, V, V, V, V, V, V, F, F] rfl rfl (by kernel_rfl) (by decide) (fun K hK => ?_)
         refine goes_ Try.func38 (by kernel_rfl) rfl #[.agg (fv b2), .agg #[.int .i64 2000, .int .i64 m, .int .i64 d], .int .i64 v] (by rfl) rfl rfl (by (try simp only [List.map_toArray, List.map_cons, List.map_nil]); first | done | rfl) ?_
         refine (DBC.out _).mono ?_
         rintro e w20 ⟨rfl, hb⟩
         refine ⟨_, rfl, ?_⟩
         have hI2 := Aside0.mk (hI.out.below hb)
         clear hI hb
         have hI := hI2
         clear hI2
         refine hK.out _ _ (hI.out) (fun hHeld => ?_)
         clear hK K; refine norm_ (a' := ?_) ?_ ?_; rotate_left
         ·
          show Act.put _ (some 48) _ = _; simp only [Act.put, pA, pZ, pS, i64_w, i32_w]; rfl
         refine pure_ (i := 21) (N := (some 49)) (v := ?_) (a' := ?_) #[V, V, V, V, V, V, V, V, V, V, V, V, V, V, V, V, V, V, V, V, V, V, F] rfl rfl (by kernel_rfl) (fun _ _ _ h => h) (Or.inl ⟨by rfl, ?_⟩) ?_ ?_
         rotate_left
         ·
          intro w'; go_simp; with_reducible rfl
         rotate_left
         ·
          simp only [Act.put, pA, pZ, pS, i64_w, i32_w]; rfl
         refine pure_ (i := 22) (N := (some 50)) (v := ?_) (a' := ?_) #[V, V, V, V, V, V, V, V, V, V, V, V, V, V, V, V, V, V, V, V, V, V, V] rfl rfl (by kernel_rfl) (fun _ _ _ h => h) (Or.inl ⟨by rfl, ?_⟩) ?_ ?_
         rotate_left
         ·
          intro w'; go_simp; with_reducible rfl
         rotate_left
         ·
          simp only [Act.put, pA, pZ, pS, i64_w, i32_w]; rfl
         refine done_ (by kernel_rfl) ?_
         cases da
         ·
          cases db
          ·
           go_wp2_with fail
           have hI2 := Aside0.mk hI.out.tail
           clear hI
           have hI := hI2
           clear hI2
           go_roundg (7 - (v + 1)).toNat
           case measure => have := HG3.out; have := HR.out; omega
           case rel => exact ⟨v + 1, by first | rfl | (rw [e9]) | (rw [e8]) | (rw [e7]) | go_num, hI, ⟨by have := HR.out; omega, by have := HR.out; omega, fun v' h1 h2 => by
            rcases Int.lt_or_eq_of_le (show v' ≤ v by omega) with c | c
            ·
             exact HV.out.2.2 v' h1 c
            ·
             rw [c]; unfold mdOk; rw [← QA.out, ← QB.out, ← DA.out, ← DB.out]; decide⟩, ⟨Nat.le_refl _⟩⟩
          ·
           go_wp2_with fail
           exact bodyPost_ret (v := .tuple #[.int .i64 m, .int .i64 d, .int .i64 v, .bool true]) (by simp [results, Try.results49, go_sem]) rfl ⟨Or.inl ⟨m, d, v, HR.out, by unfold mdOk; rw [← QA.out, ← QB.out, ← DA.out, ← DB.out]; decide, rfl⟩, hI.out.B⟩
         ·
          cases db
          ·
           go_wp2_with fail
           exact bodyPost_ret (v := .tuple #[.int .i64 m, .int .i64 d, .int .i64 v, .bool true]) (by simp [results, Try.results49, go_sem]) rfl ⟨Or.inl ⟨m, d, v, HR.out, by unfold mdOk; rw [← QA.out, ← QB.out, ← DA.out, ← DB.out]; decide, rfl⟩, hI.out.B⟩
          ·
           go_wp2_with fail
           have hI2 := Aside0.mk hI.out.tail
           clear hI
           have hI := hI2
           clear hI2
           go_roundg (7 - (v + 1)).toNat
           case measure => have := HG3.out; have := HR.out; omega
           case rel => exact ⟨v + 1, by first | rfl | (rw [e9]) | (rw [e8]) | (rw [e7]) | go_num, hI, ⟨by have := HR.out; omega, by have := HR.out; omega, fun v' h1 h2 => by
            rcases Int.lt_or_eq_of_le (show v' ≤ v by omega) with c | c
            ·
             exact HV.out.2.2 v' h1 c
            ·
             rw [c]; unfold mdOk; rw [← QA.out, ← QB.out, ← DA.out, ← DB.out]; decide⟩, ⟨Nat.le_refl _⟩⟩
      ·
       have e3 : decide (v < 7) = false := decide_eq_false hv
       have e8 : wrap64 (d + 1) = d + 1 := w64_in _ (by have := HDD.out; omega) (by have := HDD.out; have := md_bd 2000 m; omega)
       go_wp2_with fail
       go_roundg ((md 2000 m + 1) - (d + 1)).toNat
       case measure => have := HG2.out; have := HDD.out; omega
       case rel => exact ⟨d + 1, by first | rfl | (rw [e9]) | (rw [e8]) | (rw [e7]) | go_num, hI, ⟨by have := HDD.out; omega, by have := HDD.out; omega, fun d' v' h1 h2 h3 h4 => by
        rcases Int.lt_or_eq_of_le (show d' ≤ d by omega) with c | c
        ·
         exact HD.out.2.2 d' v' h1 c h3 h4
        ·
         rw [c]; exact HV.out.2.2 v' h3 (by omega)⟩, ⟨Nat.le_refl _⟩⟩
    ·
     have e2 : decide (d ≤ md 2000 m) = false := decide_eq_false hd
     have e7 : wrap64 (m + 1) = m + 1 := w64_in _ (by have := HMM.out; omega) (by have := HMM.out; omega)
     go_wp2_with (go_at_call 68; (with_reducible refine (monthDays_c 2000 m _ (by decide)).mono ?_); rintro e w9 ⟨rfl, hb⟩; have hI2 := Aside0.mk (hI.out.below hb); clear hI hb; have hI := hI2; clear hI2)
     go_roundg (13 - (m + 1)).toNat
     case measure => have := HG1.out; have := HMM.out; omega
     case rel => exact ⟨m + 1, by first | rfl | (rw [e9]) | (rw [e8]) | (rw [e7]) | go_num, hI, ⟨by have := HMM.out; omega, by have := HMM.out; omega, fun m' d' v' h1 h2 h3 h4 h5 h6 => by
      rcases Int.lt_or_eq_of_le (show m' ≤ m by omega) with c | c
      ·
       exact HM.out.2.2 m' d' v' h1 c h3 h4 h5 h6
      ·
       rw [c] at h4 ⊢; exact HD.out.2.2 d' v' h3 (by omega) h5 h6⟩, ⟨Nat.le_refl _⟩⟩
  ·
   have e1 : decide (m ≤ 12) = false := decide_eq_false hm
   go_wp2_with fail
   exact bodyPost_ret (v := .tuple #[.int .i64 0, .int .i64 0, .int .i64 0, .bool false]) (by simp [results, Try.results49, go_sem]) rfl ⟨Or.inr ⟨fun m' d' v' h1 h2 h3 h4 h5 h6 => HM.out.2.2 m' d' v' h1 (by omega) h3 h4 h5 h6, rfl⟩, hI.out.B⟩
end Go.Proofs.Ytlgdaegaahnkbaa.Tm
