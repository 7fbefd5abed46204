/- A second of the day that is in one schedule alone: cronTimeApart by hand (printed by gen_ah.py). -/
import Derived.Test.YtlgdaegaahnkbaaAliG
namespace Go.Proofs.Ytlgdaegaahnkbaa.Tm
open Go Go.RowKit Cal MC
open Go.Proofs.YtlgdaegaahnkbaaW.PrintWords Go.Proofs.YtlgdaegaahnkbaaW.PrintLast Go.Proofs.YtlgdaegaahnkbaaW.PrintMore
set_option linter.unusedVariables false
set_option linter.unusedSimpArgs false
theorem size32' : (Try.prog.info? 32).map (·.size) = some 384 := size32
theorem zero122z : (Try.prog.info? 122).map (fun i => (i.zero, i.size)) = some (some (.agg (arrB (384 + 384) fun _ => false)), 384 + 384) := by kernel_rfl
/-- A second of the day that is in one of two schedules alone. -/
def Good (a b : SB) (r : Int) : Prop := 0 ≤ r ∧ r < 86400 ∧ tB a r ≠ tB b r
/-- No value of a field's, that p has and q has not, below a value of a kind. -/
def NoD (p q : SB) (k v : Int) : Prop := ∀ (k' : Nat) (v' : Int), k' < 3 → 0 ≤ v' → v' ≤ highK k' → ((k' : Int) < k ∨ ((k' : Int) = k ∧ v' < v)) → bitOf (fldN p k') v' = true → bitOf (fldN q k') v' = true
/-- What is known of the answer so far. -/
def At (a b : SB) (r : Int) : Prop := r = -1 ∨ Good a b r
def APost (a b : SB) (W : World) (e : Ending) (w' : World) : Prop := (∃ r : Int, (Good a b r ∨ (r = -1 ∧ TLike a b)) ∧ e = .returned (.int .i64 r)) ∧ Below W.heap.size W w'
theorem like_of {a b : SB} (h1 : NoD a b 3 0) (h2 : NoD b a 3 0) : TLike a b := fun k v hk v0 v1 => by
 have e1 := h1 k v hk v0 v1 (Or.inl (by omega))
 have e2 := h2 k v hk v0 v1 (Or.inl (by omega))
 cases ha : bitOf (fldN a k) v with
 | true => exact (e1 ha).symm
 | false =>
  cases hb : bitOf (fldN b k) v with
  | false => rfl
  | true => rw [e2 hb] at ha; exact absurd ha (by decide)
theorem NoD.start (p q : SB) : NoD p q 0 0 := fun k' v' _ h0 _ h => by
 rcases h with h | h <;> omega
theorem NoD.next {p q : SB} {k v : Int} (h : NoD p q k v) (hn : ∀ k' : Nat, (k' : Int) = k → k' < 3 → bitOf (fldN p k') v = true → bitOf (fldN q k') v = true) : NoD p q k (v + 1) := fun k' v' h0 h1 h2 h3 h4 => by
 rcases h3 with h3 | ⟨h3, h5⟩
 ·
  exact h k' v' h0 h1 h2 (Or.inl h3) h4
 ·
  by_cases c : v' = v
  ·
   subst c
   exact hn k' h3 h0 h4
  ·
   exact h k' v' h0 h1 h2 (Or.inr ⟨h3, by omega⟩) h4
theorem NoD.kind {p q : SB} {k v : Int} (h : NoD p q k v) (hv : highK k < v) : NoD p q (k + 1) 0 := fun k' v' h0 h1 h2 h3 h4 => by
 by_cases c : (k' : Int) < k
 ·
  exact h k' v' h0 h1 h2 (Or.inl c) h4
 ·
  have e : (k' : Int) = k := by omega
  exact h k' v' h0 h1 h2 (Or.inr ⟨e, by rw [e] at h2; omega⟩) h4
set_option maxHeartbeats 8000000 in
set_option maxRecDepth 100000 in
theorem timeApart_any (a b : SB) (w : World) (ha : Ful a) (hb : Ful b) : Calls Try.prog 51 #[.agg (fv a), .agg (fv b)] w (APost a b w) := by
 have HA := Aside0.mk ha
 have HB := Aside0.mk hb
 clear ha hb
 have szf : Aside0 (∀ c : SB, (Try.prog.info? 32).map (·.size) = some (fv c).size) := ⟨fun c => by unfold fv; rw [arrB_size]; exact size32⟩
 have szq : Aside0 (∀ c d : SB, (fv c).size = (fv d).size) := ⟨fun c d => by unfold fv; rw [arrB_size, arrB_size]⟩
 have hI : Aside0 (Blk w [(w.heap.size + 1, fv b, 32), (w.heap.size, fv a, 32)] ((w.alloc (.cells (fv a) 32)).alloc (.cells (fv b) 32))) := ⟨by
  have := (((Blk.nil w).alloc (fv a) 32).alloc (fv b) 32)
  simpa only [World.size_alloc] using this⟩
 go_enter Try.func51, Try.ntmps51
 go_upto_region 3 with (first | ((with_reducible refine wpList_isCons ?_); refine wpList_load_row rfl 32 (.tmp 2) rfl (w.heap.size) rfl 32 _ (0, 0) _ (hI.out.get 1 rfl) Try.underlying32 rfl (szf.out _) ?_; simp only [Act.put, pA, pZ, pS]) | ((with_reducible refine wpList_isCons ?_); refine wpList_load_row rfl 32 (.tmp 3) rfl (w.heap.size + 1) rfl 32 _ (0, 0) _ (hI.out.get 0 rfl) Try.underlying32 rfl (szf.out _) ?_; simp only [Act.put, pA, pZ, pS]) | ((with_reducible refine wpList_isCons ?_); refine wpList_built rfl 122 #[(0, .tmp 11), (1, .tmp 12)] rfl _ (by simp only [List.map_toArray, List.map_cons, List.map_nil]; rfl) _ (built122 (fcell a 6) (fcell b 6)) ?_; simp only [Act.put, pA, pZ, pS]) | ((with_reducible refine wpList_isCons ?_); refine wpList_built rfl 122 #[(0, .tmp 14), (1, .tmp 15)] rfl _ (by simp only [List.map_toArray, List.map_cons, List.map_nil]; rfl) _ (built122 (fcell b 6) (fcell a 6)) ?_; simp only [Act.put, pA, pZ, pS]) | ((with_reducible refine wpList_isCons ?_); refine wpList_built rfl 123 #[(0, .tmp 13), (1, .tmp 16)] rfl _ (by simp only [List.map_toArray, List.map_cons, List.map_nil]; rfl) _ (built123 _ _) ?_; simp only [Act.put, pA, pZ, pS]))
 have HX : Aside0 (∀ (i : Nat) (w : World), i < 2 → (Instr.index 123 (.agg (arrB (768 + 768) (two 768 (two 384 (fcell a 6) (fcell b 6)) (two 384 (fcell b 6) (fcell a 6))))) (.int .i64 (i : Int))).run Try.prog w = .ok (.agg (arrB (384 + 384) (if i = 0 then two 384 (fcell a 6) (fcell b 6) else two 384 (fcell b 6) (fcell a 6)))) w) := ⟨fun i w hi => index123 _ _ i hi w⟩
 generalize arrB (768 + 768) _ = AA at HX ⊢
 go_wp2_with fail
 go_loopg [18, 5] 2 (fun gk1 s18 s5 wr => ∃ (i : Nat) (r : Int), s18 = .int .i64 (i : Int) ∧ s5 = .int .i64 r ∧ Aside0 (Blk w [(w.heap.size + 1, fv b, 32), (w.heap.size, fv a, 32)] wr) ∧ Aside0 (i ≤ 2 ∧ At a b r ∧ (r < 0 → (1 ≤ i → NoD a b 3 0) ∧ (2 ≤ i → NoD b a 3 0))) ∧ Aside0 (2 - i ≤ gk1))
 case atStart => exact ⟨0, -1, rfl, rfl, hI, ⟨by omega, Or.inl rfl, fun _ => ⟨fun c => absurd c (by omega), fun c => absurd c (by omega)⟩⟩, ⟨by omega⟩⟩
 case round =>
  clear hI
  obtain ⟨i, r, rfl, rfl, hI, HR, HG1⟩ := hrel
  by_cases hi : i < 2
  ·
   have e1 : decide ((i : Int) < 2) = true := decide_eq_true (by omega)
   obtain ⟨p, q, hpq⟩ : ∃ p q : SB, (i = 0 ∧ p = a ∧ q = b) ∨ (i = 1 ∧ p = b ∧ q = a) := by
    have : i = 0 ∨ i = 1 := by omega
    rcases this with c | c
    ·
     exact ⟨a, b, Or.inl ⟨c, rfl, rfl⟩⟩
    ·
     exact ⟨b, a, Or.inr ⟨c, rfl, rfl⟩⟩
   have HPQ := Aside0.mk hpq
   have hx : ∀ w, (Instr.index 123 (.agg AA) (.int .i64 (i : Int))).run Try.prog w = .ok (.agg (arrB (384 + 384) (two 384 (fcell p 6) (fcell q 6)))) w := fun w => by
    rw [HX.out i w hi]
    rcases hpq with ⟨rfl, rfl, rfl⟩ | ⟨rfl, rfl, rfl⟩ <;> rfl
   have HPF : Aside0 (Ful p) := ⟨by rcases hpq with ⟨_, rfl, _⟩ | ⟨_, rfl, _⟩; exact HA.out; exact HB.out⟩
   have HQG : Aside0 (∀ r, 0 ≤ r → r < 86400 → tB p r = true → tB q r = false → Good a b r) := ⟨fun r r0 r1 h1 h2 => by
    rcases hpq with ⟨_, rfl, rfl⟩ | ⟨_, rfl, rfl⟩
    ·
     exact ⟨r0, r1, by rw [h1, h2]; decide⟩
    ·
     exact ⟨r0, r1, by rw [h1, h2]; decide⟩⟩
   clear hpq
   have zz := (zero_of_info zero122z).1
   have sz7 : Aside0 ((Try.prog.info? 122).map (·.size) = some (arrB (384 + 384) (two 384 (fcell p 6) (fcell q 6))).size) := ⟨by rw [arrB_size]; exact size122⟩
   have sq7 : Aside0 ((arrB (384 + 384) fun _ => false).size = (arrB (384 + 384) (two 384 (fcell p 6) (fcell q 6))).size) := ⟨by rw [arrB_size, arrB_size]⟩
   go_upto_region 5 with ((with_reducible refine wpList_isCons ?_); refine wpList_store_row rfl 122 (.tmp 7) (.tmp 20) rfl wr.heap.size _ rfl rfl 122 _ ((hI.out.alloc (arrB (384 + 384) fun _ => false) 122).get 0 rfl) sz7.out sq7.out (arrB_one _ _) ?_)
   have hI2 := Aside0.mk ((hI.out.alloc (arrB (384 + 384) fun _ => false) 122).row (arrB (384 + 384) (two 384 (fcell p 6) (fcell q 6))))
   clear hI zz hx
   have hI := hI2
   clear hI2
   generalize hgs : World.setRow _ _ _ = ws0 at hI ⊢
   clear hgs
   generalize hgf : wr.heap.size = g7 at hI ⊢
   clear hgf
   go_wp2_with fail
   go_loopg [8, 5] 3 (fun gk2 s8 s5 wr2 => ∃ (k : Nat) (r : Int), s8 = .int .i64 (k : Int) ∧ s5 = .int .i64 r ∧ Aside0 (Blk w ((g7, arrB (384 + 384) (two 384 (fcell p 6) (fcell q 6)), 122) :: [(w.heap.size + 1, fv b, 32), (w.heap.size, fv a, 32)]) wr2) ∧ Aside0 (k ≤ 3 ∧ At a b r ∧ (r < 0 → NoD p q k 0) ∧ (r < 0 → 1 ≤ i → NoD a b 3 0)) ∧ Aside0 (3 - k ≤ gk2))
   case atStart => exact ⟨0, r, rfl, rfl, hI, ⟨by omega, HR.out.2.1, fun _ => NoD.start p q, fun h => (HR.out.2.2 h).1⟩, ⟨by omega⟩⟩
   case round =>
    clear hI
    obtain ⟨k, r2, rfl, rfl, hI, HK, HG2⟩ := hrel
    by_cases hk : k ≤ 2 ∧ r2 < 0
    ·
     have e2 : decide ((k : Int) ≤ 2) = true := decide_eq_true (by omega)
     have e3 : decide (r2 < 0) = true := decide_eq_true hk.2
     have HKK := Aside0.mk hk
     clear hk
     go_wp2_with fail
     go_loopg [9, 5] 61 (fun gk3 s9 s5 wr3 => ∃ (v : Nat) (r : Int), s9 = .int .i64 (v : Int) ∧ s5 = .int .i64 r ∧ Aside0 (Blk w ((g7, arrB (384 + 384) (two 384 (fcell p 6) (fcell q 6)), 122) :: [(w.heap.size + 1, fv b, 32), (w.heap.size, fv a, 32)]) wr3) ∧ Aside0 ((v : Int) ≤ highK k + 1 ∧ At a b r ∧ (r < 0 → NoD p q k v)) ∧ Aside0 (61 - v ≤ gk3))
     case atStart => exact ⟨0, r2, rfl, rfl, hI, ⟨by have := high_bd (k : Int); omega, HK.out.2.1, fun h => HK.out.2.2.1 h⟩, ⟨by omega⟩⟩
     case round =>
      clear hI
      obtain ⟨v, r3, rfl, rfl, hI, HV, HG3⟩ := hrel
      have hhb := high_bd (k : Int)
      by_cases hv : (v : Int) ≤ highK k ∧ r3 < 0
      ·
       have e4 : decide ((v : Int) ≤ highK k) = true := decide_eq_true hv.1
       have e5 : decide (r3 < 0) = true := decide_eq_true hv.2
       have HVV := Aside0.mk hv
       have hv60 : (v : Int) ≤ 59 := by omega
       have hk2 : (k : Int) ≤ 2 := by have := HKK.out.1; omega
       clear hv
       obtain ⟨pa, hpa⟩ : ∃ q', q' = bitOf (fldN p k) (v : Int) := ⟨_, rfl⟩
       obtain ⟨qa, hqa⟩ : ∃ q', q' = bitOf (fldN q k) (v : Int) := ⟨_, rfl⟩
       have HPA := Aside0.mk hpa
       have HQA := Aside0.mk hqa
       have CC : Aside0 (∀ w' : World, w'.heap[g7]? = some (.cells (arrB (384 + 384) (two 384 (fcell p 6) (fcell q 6))) 122 (0, 0)) → w'.cell? ⟨g7, k * 64 + 1 + v, none⟩ = some (.bool pa) ∧ w'.cell? ⟨g7, 384 + k * 64 + 1 + v, none⟩ = some (.bool qa)) := ⟨fun w' h => by
        have hl0 : lowK (k : Int) = 0 := by rcases lt3 (show k < 3 by omega) with rfl | rfl | rfl <;> rfl
        have f1 := fcell_in p k (v : Int) (by omega) (by omega) HVV.out.1
        have f2 := fcell_in q k (v : Int) (by omega) (by omega) HVV.out.1
        rw [Int.toNat_natCast, Nat.mul_comm 64 k] at f1 f2
        refine ⟨?_, ?_⟩
        ·
         rw [blk_cell h, arrB_get _ _ _ (by omega), hpa, ← f1]
         unfold two
         rw [if_pos (by omega)]
        ·
         rw [blk_cell h, arrB_get _ _ _ (by omega), hqa, ← f2]
         unfold two
         rw [if_neg (by omega), show 384 + k * 64 + 1 + v - 384 = k * 64 + 1 + v by omega]⟩
       clear hpa hqa hhb
       obtain ⟨c1, c2⟩ := CC.out wr (hI.out.get 0 rfl)
       have HS := Aside0.mk (And.intro hv60 hk2)
       have e9 : wrap64 ((v : Int) + 1) = ((v + 1 : Nat) : Int) := w64_in _ (by have := HS.out; omega) (by have := HS.out; omega)
       cases pa
       ·
        cases qa
        ·
         go_wp2_with (go_at_call 58; (with_reducible refine (high_c k _).mono ?_); rintro e w9 ⟨rfl, hb⟩; have hI2 := Aside0.mk (hI.out.below hb); clear hI hb; have hI := hI2; clear hI2; (obtain ⟨c1, c2⟩ := CC.out w9 (hI.out.get 0 rfl)))
         go_roundg (61 - (v + 1))
         case measure => have := HG3.out; have := HS.out; omega
         case rel => exact ⟨v + 1, r3, by first | rfl | go_num | (congr 1; omega), rfl, hI, ⟨by have := HVV.out.1; omega, HV.out.2.1, fun h => by
          have := (HV.out.2.2 h).next (fun k' hk' _ hh => by
           have ek : k' = k := by omega
           subst ek
           rw [← HPA.out] at hh; exact absurd hh (by decide))
          simpa using this⟩, ⟨Nat.le_refl _⟩⟩
        ·
         go_wp2_with (go_at_call 58; (with_reducible refine (high_c k _).mono ?_); rintro e w9 ⟨rfl, hb⟩; have hI2 := Aside0.mk (hI.out.below hb); clear hI hb; have hI := hI2; clear hI2; (obtain ⟨c1, c2⟩ := CC.out w9 (hI.out.get 0 rfl)))
         go_roundg (61 - (v + 1))
         case measure => have := HG3.out; have := HS.out; omega
         case rel => exact ⟨v + 1, r3, by first | rfl | go_num | (congr 1; omega), rfl, hI, ⟨by have := HVV.out.1; omega, HV.out.2.1, fun h => by
          have := (HV.out.2.2 h).next (fun k' hk' _ hh => by
           have ek : k' = k := by omega
           subst ek
           exact HQA.out.symm)
          simpa using this⟩, ⟨Nat.le_refl _⟩⟩
       ·
        cases qa
        ·
         have zz : ∀ w, (zeroValue 32).run Try.prog w = .ok (.agg (fv zB)) w := by rw [fv_zero]; exact (zero_of_info zero32).1
         have HLD : Aside0 ((arrB 384 fun i => two 384 (fcell p 6) (fcell q 6) (0 + i)) = fv p) := ⟨by unfold fv; exact arrB_congr fun i hi => by unfold two; rw [if_pos (by omega), Nat.zero_add]⟩
         go_upto_region 13 with (first | (go_at_call 58; (with_reducible refine (high_c k _).mono ?_); rintro e w9 ⟨rfl, hb⟩; have hI2 := Aside0.mk (hI.out.below hb); clear hI hb; have hI := hI2; clear hI2; (obtain ⟨c1, c2⟩ := CC.out w9 (hI.out.get 0 rfl))) | ((with_reducible refine wpList_isCons ?_); refine wpList_load_cells rfl 32 (.tmp 56) rfl g7 0 (384 + 384) 384 (two 384 (fcell p 6) (fcell q 6)) rfl 122 (0, 0) _ (hI.out.get 0 rfl) (by decide) Try.underlying32 rfl size32' _ HLD.out ?_) | ((with_reducible refine wpList_isCons ?_); refine wpList_store_row rfl 32 (.tmp 10) (.tmp 57) rfl w9.heap.size (fv p) rfl rfl 32 _ ((hI.out.alloc (fv zB) 32).get 0 rfl) (szf.out _) (szq.out _ _) (arrB_one _ _) ?_))
         clear zz c1 c2
         have hI2 := Aside0.mk ((hI.out.alloc (fv zB) 32).row (fv p))
         clear hI
         have hI := hI2
         clear hI2
         generalize hgs : World.setRow _ _ _ = ws1 at hI ⊢
         clear hgs
         generalize hgf : w9.heap.size = g10 at hI ⊢
         clear hgf
         have SZ30 : Aside0 ((Try.prog.info? 30).map (·.size) = some (arrB 64 (oneB v)).size) := ⟨by rw [arrB_size]; exact size30⟩
         have HO30 : Aside0 (k * 64 + (arrB 64 (oneB v)).size ≤ (fv p).size) := ⟨by unfold fv; rw [arrB_size, arrB_size]; have := HS.out; omega⟩
         go_upto_region 14 with (first | (go_at_call 72; (with_reducible refine (one_any v (by have := HS.out; omega) _).mono ?_); rintro e w10 ⟨rfl, hb⟩; have hI2 := Aside0.mk (hI.out.below hb); clear hI hb; have hI := hI2; clear hI2) | ((with_reducible refine wpList_isCons ?_); refine wpList_store_at rfl 30 (.tmp 61) (.tmp 60) rfl g10 (k * 64) (arrB 64 (oneB v)) rfl rfl 32 (fv p) (hI.out.get 0 rfl) SZ30.out HO30.out (arrB_one _ _) ?_))
         rw [Nat.mul_comm k 64, fv_one p k v (by have := HS.out; omega) HVV.out.1]
         have hI2 := Aside0.mk (hI.out.row (fv (p.put k (2 ^ v))))
         clear hI
         have hI := hI2
         clear hI2
         generalize hgs : World.setRow _ _ _ = ws2 at hI ⊢
         clear hgs
         have CT : Aside0 (∀ w', Calls Try.prog 48 #[.agg (fv (p.put k (2 ^ v))), .int .i64 0] w' fun e w'' => (∃ r, IsTime (p.put k (2 ^ v)).sch 0 r ∧ e = .returned (.int .i64 r)) ∧ Below w'.heap.size w' w'') := ⟨fun w' => time_any _ 0 w' (by decide) (by decide)⟩
         have HPT : Aside0 (∀ r, IsTime (p.put k (2 ^ v)).sch 0 r → Good a b r) := ⟨fun r hr => by
          have h := time_alone (q := q) HPF.out k v (by have := HS.out; omega) HVV.out.1 HPA.out.symm HQA.out.symm hr
          exact HQG.out r h.1 h.2.1 h.2.2.1 h.2.2.2⟩
         generalize (p.put k (2 ^ v)) = p1 at hI CT HPT ⊢
         go_wp2_with (first | ((with_reducible refine wpList_isCons ?_); refine wpList_load_row rfl 32 (.tmp 10) rfl g10 rfl 32 _ (0, 0) _ (hI.out.get 0 rfl) Try.underlying32 rfl (szf.out _) ?_) | (go_at_call 48; (with_reducible refine (CT.out _).mono ?_); rintro e w11 ⟨⟨r4, hr4, rfl⟩, hb⟩; have HR4 := Aside0.mk (HPT.out _ hr4); clear hr4; have hI2 := Aside0.mk (hI.out.below hb); clear hI hb; have hI := hI2; clear hI2))
         have hI2 := Aside0.mk hI.out.tail
         clear hI
         have hI := hI2
         clear hI2
         go_roundg (61 - (v + 1))
         case measure => have := HG3.out; have := HS.out; omega
         case rel => exact ⟨v + 1, r4, by first | rfl | go_num | (congr 1; omega), rfl, hI, ⟨by have := HVV.out.1; omega, Or.inr HR4.out, fun h => absurd HR4.out.1 (by omega)⟩, ⟨Nat.le_refl _⟩⟩
        ·
         go_wp2_with (go_at_call 58; (with_reducible refine (high_c k _).mono ?_); rintro e w9 ⟨rfl, hb⟩; have hI2 := Aside0.mk (hI.out.below hb); clear hI hb; have hI := hI2; clear hI2; (obtain ⟨c1, c2⟩ := CC.out w9 (hI.out.get 0 rfl)))
         go_roundg (61 - (v + 1))
         case measure => have := HG3.out; have := HS.out; omega
         case rel => exact ⟨v + 1, r3, by first | rfl | go_num | (congr 1; omega), rfl, hI, ⟨by have := HVV.out.1; omega, HV.out.2.1, fun h => by
          have := (HV.out.2.2 h).next (fun k' hk' _ hh => by
           have ek : k' = k := by omega
           subst ek
           exact HQA.out.symm)
          simpa using this⟩, ⟨Nat.le_refl _⟩⟩
      ·
       have HKN : Aside0 (At a b r3 ∧ (r3 < 0 → NoD p q (k + 1) 0)) := ⟨HV.out.2.1, fun h => (HV.out.2.2 h).kind (by rcases Decidable.not_and_iff_or_not.1 hv with c | c; exact Int.lt_of_not_ge c; exact absurd h c)⟩
       have HS : Aside0 ((k : Int) ≤ 2) := ⟨by have := HKK.out.1; omega⟩
       have e8 : wrap64 ((k : Int) + 1) = ((k + 1 : Nat) : Int) := w64_in _ (by have := HS.out; omega) (by have := HS.out; omega)
       by_cases hv1 : (v : Int) ≤ highK k
       ·
        have e4 : decide ((v : Int) ≤ highK k) = true := decide_eq_true hv1
        have e5 : decide (r3 < 0) = false := decide_eq_false fun c => hv ⟨hv1, c⟩
        clear hv hhb
        go_wp2_with (go_at_call 58; (with_reducible refine (high_c k _).mono ?_); rintro e w9 ⟨rfl, hb⟩; have hI2 := Aside0.mk (hI.out.below hb); clear hI hb; have hI := hI2; clear hI2)
        go_roundg (3 - (k + 1))
        case measure => have := HG2.out; have := HS.out; omega
        case rel => exact ⟨k + 1, r3, by first | rfl | go_num | (congr 1; omega), rfl, hI, ⟨by have := HS.out; omega, HKN.out.1, fun h => by have := HKN.out.2 h; simpa using this, fun _ => HK.out.2.2.2 HKK.out.2⟩, ⟨Nat.le_refl _⟩⟩
       ·
        have e4 : decide ((v : Int) ≤ highK k) = false := decide_eq_false hv1
        clear hv hhb
        go_wp2_with (go_at_call 58; (with_reducible refine (high_c k _).mono ?_); rintro e w9 ⟨rfl, hb⟩; have hI2 := Aside0.mk (hI.out.below hb); clear hI hb; have hI := hI2; clear hI2)
        go_roundg (3 - (k + 1))
        case measure => have := HG2.out; have := HS.out; omega
        case rel => exact ⟨k + 1, r3, by first | rfl | go_num | (congr 1; omega), rfl, hI, ⟨by have := HS.out; omega, HKN.out.1, fun h => by have := HKN.out.2 h; simpa using this, fun _ => HK.out.2.2.2 HKK.out.2⟩, ⟨Nat.le_refl _⟩⟩
    ·
     have HR' : Aside0 ((i + 1) ≤ 2 ∧ At a b r2 ∧ (r2 < 0 → (1 ≤ i + 1 → NoD a b 3 0) ∧ (2 ≤ i + 1 → NoD b a 3 0))) := ⟨by omega, HK.out.2.1, fun h => by
      have hk3 : k = 3 := by
       have := HK.out.1
       rcases Decidable.not_and_iff_or_not.1 hk with c | c
       ·
        omega
       ·
        exact absurd h c
      have hn := HK.out.2.2.1 h
      rw [hk3] at hn
      rcases HPQ.out with ⟨e, ep, eq⟩ | ⟨e, ep, eq⟩
      ·
       rw [ep, eq] at hn
       exact ⟨fun _ => hn, fun c => absurd c (by omega)⟩
      ·
       rw [ep, eq] at hn
       exact ⟨fun _ => HK.out.2.2.2 h (by omega), fun _ => hn⟩⟩
     have HS : Aside0 (i < 2) := ⟨hi⟩
     have e7 : wrap64 ((i : Int) + 1) = ((i + 1 : Nat) : Int) := w64_in _ (by have := HS.out; omega) (by have := HS.out; omega)
     by_cases hk1 : k ≤ 2
     ·
      have e2 : decide ((k : Int) ≤ 2) = true := decide_eq_true (by omega)
      have e3 : decide (r2 < 0) = false := decide_eq_false fun c => hk ⟨hk1, c⟩
      clear hk hi
      go_wp2_with fail
      have hI2 := Aside0.mk hI.out.tail
      clear hI
      have hI := hI2
      clear hI2
      go_roundg (2 - (i + 1))
      case measure => have := HG1.out; have := HS.out; omega
      case rel => exact ⟨i + 1, r2, by first | rfl | go_num | (congr 1; omega), rfl, hI, HR', ⟨Nat.le_refl _⟩⟩
     ·
      have e2 : decide ((k : Int) ≤ 2) = false := decide_eq_false (by omega)
      clear hk hi
      go_wp2_with fail
      have hI2 := Aside0.mk hI.out.tail
      clear hI
      have hI := hI2
      clear hI2
      go_roundg (2 - (i + 1))
      case measure => have := HG1.out; have := HS.out; omega
      case rel => exact ⟨i + 1, r2, by first | rfl | go_num | (congr 1; omega), rfl, hI, HR', ⟨Nat.le_refl _⟩⟩
  ·
   have e1 : decide ((i : Int) < 2) = false := decide_eq_false (by omega)
   have HN : Aside0 (i = 2) := ⟨by have := HR.out.1; omega⟩
   clear hi
   go_wp2_with fail
   go_ret
   refine ⟨⟨r, ?_, rfl⟩, hI.out.B⟩
   rcases HR.out.2.1 with h | h
   ·
    have := HR.out.2.2 (by omega)
    exact Or.inr ⟨h, like_of (this.1 (by have := HN.out; omega)) (this.2 (by have := HN.out; omega))⟩
   ·
    exact Or.inl h
end Go.Proofs.Ytlgdaegaahnkbaa.Tm
