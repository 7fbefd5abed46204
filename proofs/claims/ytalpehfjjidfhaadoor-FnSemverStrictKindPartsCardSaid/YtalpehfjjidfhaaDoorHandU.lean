/- What is proved: by hand, the grammar's reading of a version's text. -/
import Derived.Test.YtalpehfjjidfhaaDoorHandR
namespace Go.Proofs.YtalpehfjjidfhaaDoor.MS
open Go Go.RowKit Sv Hand
open Go.Proofs.YtalpehfjjidfhaaDoorW.PrintWords Go.Proofs.YtalpehfjjidfhaaDoorW.PrintLast Go.Proofs.YtalpehfjjidfhaaDoorW.PrintMore
open Go.Proofs.YtalpehfjjidfhaaDoor.MA (tl identB identL digsL okPre validPre)
set_option linter.unusedVariables false
set_option linter.unusedSimpArgs false
def okT (l : List UInt8) : Bool := (!has 43 l || validM (tail 43 l)) && (!has 45 (core 43 l) || validP (tail 45 (core 43 l)))
theorem validPre_B (l : List UInt8) : validPre (B l) = validP l := by unfold validPre validP; rw [tl_B]
theorem validMeta_B (l : List UInt8) : validMeta (B l) = validM l := by unfold validMeta validM; rw [tl_B]
theorem tails_f (a : ByteArray) (ha : a.size < 100000) (k : Nat) (hk : 2 * a.size + 3 < k) :
    spec_tails.f k a = some (B (core 45 (core 43 (tl a))), B (tail 45 (core 43 (tl a))), B (tail 43 (tl a)), okT (tl a)) := by
  have hs : a.size = (tl a).length := size_data a
  have h1 := @tail_le 43 (tl a)
  have h2 := @tail_le 45 (core 43 (tl a))
  unfold spec_tails.f
  rw [show (43 : Int) = ((43 : UInt8).toNat : Int) from rfl, show (45 : Int) = ((45 : UInt8).toNat : Int) from rfl, cutAt_f 43 a (by omega) k (by omega)]
  simp only [Option.bind_some]
  rw [cutAt_f 45 (B (core 43 (tl a))) (by rw [B_size]; omega) k (by rw [B_size]; omega)]
  simp only [Option.bind_some, tl_B]
  rw [ValidMeta_f (B (tail 43 (tl a))) (by rw [B_size]; omega) k (by rw [B_size]; omega), ValidPre_f (B (tail 45 (core 43 (tl a)))) (by rw [B_size]; omega) k (by rw [B_size]; omega)]
  simp only [Option.bind_some, validPre_B, validMeta_B]
  unfold okT
  cases has 43 (tl a) <;> cases has 45 (core 43 (tl a)) <;> cases validM (tail 43 (tl a)) <;> simp
/-- What spec.Number tells. -/
def numD (l : List UInt8) : Option Nat := if digsL l = true then num? l else none
theorem Number_c (l : List UInt8) (hl : l.length < 300) (w : World) :
    Calls Tryd.prog 46 #[.string (B l)] w fun e w' => e = .returned (.tuple #[.int .u64 (((numD l).getD 0 : Nat) : Int), .bool (numD l).isSome]) ∧ Below w.heap.size w w' := by
  have h := Number_f (B l) (by rw [B_size]; omega) ((B l).size + 1) (by omega)
  rw [tl_B] at h
  have h2 : spec_Number.f ((B l).size + 1) (B l) = some ((((numD l).getD 0 : Nat) : Int), (numD l).isSome) := by
    rw [h]
    unfold numD
    cases (if digsL l = true then num? l else none) <;> rfl
  exact (spec_Number.calls _ _ _ _ w h2).mono fun e w' ⟨he, hd⟩ => ⟨he, hd.below⟩
theorem numB_D (l : List UInt8) : numB l = if zeroL l = true then none else numD l := by
  unfold numB numD
  have hp : plain l = !zeroL l := by
    unfold plain zeroL
    rw [Bool.eq_iff_iff]
    simp
  rw [hp]
  cases hz : zeroL l with
  | true => simp
  | false =>
    simp only [Bool.not_false, and_true, Bool.false_eq_true, if_false]
    by_cases hd : l.all dig = true
    · rw [if_pos hd]
      cases l with
      | nil => rw [if_neg (by decide)]; rfl
      | cons c r => rw [if_pos (by unfold digsL; rw [hd]; rfl)]
    · rw [if_neg hd, if_neg]
      unfold digsL
      rw [Bool.eq_false_iff.2 hd]
      simp
theorem tails_c (o : ByteArray) (ho : o.size ≤ 256) (w : World) :
    Calls Tryd.prog 142 #[.string o] w fun e w' => e = .returned (.tuple #[.string (B (core 45 (core 43 (tl o)))), .string (B (tail 45 (core 43 (tl o)))), .string (B (tail 43 (tl o))), .bool (okT (tl o))]) ∧ Below w.heap.size w w' :=
  spec_tails.calls _ o _ _ _ _ w (tails_f o (by omega) (2 * o.size + 4) (by omega))
theorem ident_c (l : List UInt8) (hl : l.length < 300) (w : World) :
    Calls Tryd.prog 127 #[.string (B l)] w fun e w' => (∃ v, e = .returned v ∧ Kd.R Kd.string 9 w' w.heap.size (fun _ => True) v (bs (splitD l))) ∧ Below w.heap.size w w' := by
  have h := Identifiers_f (B l) (by rw [B_size]; omega) ((B l).size + 1) (by omega)
  rw [tl_B] at h
  exact (spec_Identifiers.calls _ _ _ w h).mono fun e w' ⟨v, h1, h2, h3⟩ => ⟨⟨v, h1, h2⟩, h3⟩
def specVal : Option Parts → Value
  | some P => .tuple #[.agg #[.int .u64 P.M, .int .u64 P.m, .int .u64 P.t, .string (B P.u), .string (B P.v)], .bool true]
  | none => .tuple #[.agg #[.int .u64 0, .int .u64 0, .int .u64 0, .string ⟨#[]⟩, .string ⟨#[]⟩], .bool false]
theorem specV_alt (l : List UInt8) : specV l = if okT l = true then (match splitD (core 45 (core 43 l)) with | [a, b, c] => parts3 a b c (tail 45 (core 43 l)) (tail 43 l) | _ => none) else none := by
  unfold specV okT
  cases h1 : has 43 l <;> cases h2 : validM (tail 43 l) <;> cases h3 : has 45 (core 43 l) <;> cases h4 : validP (tail 45 (core 43 l)) <;> first | (simp; done) | (simp; rfl)
set_option maxHeartbeats 1000000 in
theorem grammar_bad (o : ByteArray) (ho : o.size ≤ 256) (w : World) (hb : okT (tl o) = false ∨ (splitD (core 45 (core 43 (tl o)))).length ≠ 3) : Calls Tryd.prog 90 #[.string o] w fun e w' => e = .returned (specVal none) ∧ Below w.heap.size w w' := by
  have hs : o.size = (tl o).length := size_data o
  have h1 := @tail_le 43 (tl o)
  have h2 := @tail_le 45 (core 43 (tl o))
  have hl : (core 45 (core 43 (tl o))).length < 300 := by omega
  have X := Aside0.mk (tails_c o ho)
  have HB := Aside0.mk ((Below.refl _ w).alloc (Nat.le_refl _) (.cells #[.int .u64 0, .int .u64 0, .int .u64 0, .string ⟨#[]⟩, .string ⟨#[]⟩] 29))
  have Y := Aside0.mk (ident_c _ hl)
  obtain ⟨xs, hxs⟩ : ∃ xs, bs (splitD (core 45 (core 43 (tl o)))) = xs := ⟨_, rfl⟩
  rw [hxs] at Y
  have hx : xs.length = (splitD (core 45 (core 43 (tl o)))).length := by rw [← hxs]; simp [bs]
  rw [← hx] at hb
  clear hx hxs hl h1 h2
  generalize okT (tl o) = ok at X hb
  generalize B (core 45 (core 43 (tl o))) = c at X Y
  generalize B (tail 45 (core 43 (tl o))) = u at X
  generalize B (tail 43 (tl o)) = v at X
  clear hs ho
  cases ok with
  | false =>
    clear hb
    go_enter Tryd.func90, Tryd.ntmps90
    go_wp2_with (first | (go_at_call 142; (with_reducible refine (X.out _).mono ?_); rintro e w1 ⟨rfl, hb1⟩; have HB1 := Aside0.mk (HB.out.trans (hb1.mono HB.out.size)); have HZ := Aside0.mk hb1; clear hb1) | (go_at_call 127; (with_reducible refine (Y.out _).mono ?_); rintro e w2 ⟨⟨v2, rfl, hR⟩, hb2⟩; have hb3 := HZ.out.trans (hb2.mono HZ.out.size); obtain ⟨A, cc, rfl⟩ := Kd.R_slice hR; clear hR hb2; obtain ⟨hc, hf⟩ := bcell hb3; have hz := hb3.size; have HB1 : Below w.heap.size w w2 := ((Below.refl _ w).alloc (Nat.le_refl _) _).trans (hb3.mono (by simp))))
    exact bodyPost_ret (v := specVal none) (by simp [specVal, results, Tryd.results90, go_sem, hc, hz]) rfl ⟨rfl, by first | exact HB1 | exact ((((HB1.setCell (Nat.le_refl _) _).setCell (Nat.le_refl _) _).setCell (Nat.le_refl _) _).setCell (Nat.le_refl _) _).setCell (Nat.le_refl _) _⟩
  | true =>
    have hne : xs.length ≠ 3 := by rcases hb with h | h; cases h; exact h
    have c3 : ((xs.length : Int) == 3) = false := by simpa using (by omega : ¬ (xs.length : Int) = 3)
    have c4 : ((xs.length : Int) != 3) = true := by simpa using (by omega : ¬ (xs.length : Int) = 3)
    clear hb
    go_enter Tryd.func90, Tryd.ntmps90
    go_wp2_with (first | (go_at_call 142; (with_reducible refine (X.out _).mono ?_); rintro e w1 ⟨rfl, hb1⟩; have HB1 := Aside0.mk (HB.out.trans (hb1.mono HB.out.size)); have HZ := Aside0.mk hb1; clear hb1) | (go_at_call 127; (with_reducible refine (Y.out _).mono ?_); rintro e w2 ⟨⟨v2, rfl, hR⟩, hb2⟩; have hb3 := HZ.out.trans (hb2.mono HZ.out.size); obtain ⟨A, cc, rfl⟩ := Kd.R_slice hR; clear hR hb2; obtain ⟨hc, hf⟩ := bcell hb3; have hz := hb3.size; have HB1 : Below w.heap.size w w2 := ((Below.refl _ w).alloc (Nat.le_refl _) _).trans (hb3.mono (by simp))))
    exact bodyPost_ret (v := specVal none) (by simp [specVal, results, Tryd.results90, go_sem, hc, hz]) rfl ⟨rfl, by first | exact HB1 | exact ((((HB1.setCell (Nat.le_refl _) _).setCell (Nat.le_refl _) _).setCell (Nat.le_refl _) _).setCell (Nat.le_refl _) _).setCell (Nat.le_refl _) _⟩
def nB (x : List UInt8) : Nat := (numB x).getD 0
def selN (xs : List (List UInt8)) (i j : Nat) : Int := if j < i then (nB (xs.getD j []) : Nat) else 0
/-- The memory while the three numbers are read. -/
structure GAt (W w : World) (g R A : Nat) (xs : List (List UInt8)) (i : Nat) : Prop where mk ::
  (row : Row3 w g (B (xs.getD 0 [])) (B (xs.getD 1 [])) (B (xs.getD 2 [])))
  (res : w.heap[R]? = some (.cells #[.int .u64 0, .int .u64 0, .int .u64 0, .string ⟨#[]⟩, .string ⟨#[]⟩] 29 (0, 0)))
  (arr : w.heap[A]? = some (.cells #[.int .u64 (selN xs i 0), .int .u64 (selN xs i 1), .int .u64 (selN xs i 2)] 131 (0, 0)))
  (gA : g ≠ A)
  (RA : R ≠ A)
  (Rb : W.heap.size ≤ R)
  (Ab : W.heap.size ≤ A)
  (B : Below W.heap.size W w)
theorem GAt.below {W w w' : World} {g R A : Nat} {xs : List (List UInt8)} {i : Nat} (h : GAt W w g R A xs i) (hb : Below w.heap.size w w') : GAt W w' g R A xs i :=
  ⟨h.row.below hb, blk_below h.res hb, blk_below h.arr hb, h.gA, h.RA, h.Rb, h.Ab, h.B.trans (hb.mono h.B.size)⟩
theorem GAt.store {W w : World} {g R A : Nat} {xs : List (List UInt8)} {i : Nat} (h : GAt W w g R A xs i) (hi : i < 3) : GAt W (w.setCell ⟨A, i, none⟩ (.int .u64 (nB (xs.getD i []) : Nat))) g R A xs (i + 1) := by
  obtain ⟨⟨l1, f1, c0, c1, c2⟩, hr, ha, gA, RA, Rb, Ab, hB⟩ := h
  have ha2 := blk_set ha i (.int .u64 (nB (xs.getD i []) : Nat))
  refine ⟨⟨by simpa using l1, fun j => by simpa using f1 j, ?_, ?_, ?_⟩, ?_, ?_, gA, RA, Rb, Ab, hB.setCell Ab _⟩
  · go_simp
  · go_simp
  · go_simp
  · rw [Below.heap_setCell w _ _ R RA]; exact hr
  · rw [ha2]
    rcases i with _ | _ | _ | i
    · simp [selN]
    · simp [selN]
    · simp [selN]
    · omega
theorem parts3_no {p q s u v : List UInt8} {i : Nat} (hi : i < 3) (h : numB ([p, q, s].getD i []) = none) : parts3 p q s u v = none := by
  unfold parts3
  rcases i with _ | _ | _ | i
  · rw [show numB p = none from h]
  · rw [show numB q = none from h]
    cases numB p <;> rfl
  · rw [show numB s = none from h]
    cases numB p <;> cases numB q <;> rfl
  · omega
theorem parts3_yes {p q s u v : List UInt8} (h : ∀ j, j < 3 → numB ([p, q, s].getD j []) ≠ none) : parts3 p q s u v = some ⟨nB p, nB q, nB s, u, v⟩ := by
  obtain ⟨a, h0⟩ := Option.ne_none_iff_exists'.1 (show numB p ≠ none from h 0 (by decide))
  obtain ⟨b, h1⟩ := Option.ne_none_iff_exists'.1 (show numB q ≠ none from h 1 (by decide))
  obtain ⟨c, h2⟩ := Option.ne_none_iff_exists'.1 (show numB s ≠ none from h 2 (by decide))
  unfold parts3 nB
  rw [h0, h1, h2]
  rfl
set_option maxHeartbeats 8000000 in
set_option maxRecDepth 100000 in
theorem grammar_good (o : ByteArray) (ho : o.size ≤ 256) (w : World) (hok : okT (tl o) = true) {p q s : List UInt8} (hsp : splitD (core 45 (core 43 (tl o))) = [p, q, s]) : Calls Tryd.prog 90 #[.string o] w fun e w' => e = .returned (specVal (parts3 p q s (tail 45 (core 43 (tl o))) (tail 43 (tl o)))) ∧ Below w.heap.size w w' := by
  have hs : o.size = (tl o).length := size_data o
  have h1 := @tail_le 43 (tl o)
  have h2 := @tail_le 45 (core 43 (tl o))
  have hl : (core 45 (core 43 (tl o))).length < 300 := by omega
  obtain ⟨xs, hxs⟩ : ∃ xs : List (List UInt8), xs = [p, q, s] := ⟨_, rfl⟩
  have hlen : ∀ i, (xs.getD i []).length < 300 := by
    intro i
    rcases Nat.lt_or_ge i xs.length with h | h
    · have hm : xs.getD i [] ∈ splitD (core 45 (core 43 (tl o))) := by
        rw [hsp, ← hxs, List.getD_eq_getElem?_getD, List.getElem?_eq_getElem h]
        exact List.getElem_mem h
      have := splitD_mem _ _ hm
      omega
    · rw [List.getD_eq_getElem?_getD, List.getElem?_eq_none h]; decide
  have X := Aside0.mk (tails_c o ho)
  have HB := Aside0.mk ((Below.refl _ w).alloc (Nat.le_refl _) (.cells #[.int .u64 0, .int .u64 0, .int .u64 0, .string ⟨#[]⟩, .string ⟨#[]⟩] 29))
  have Y := Aside0.mk (ident_c _ hl)
  rw [hok] at X
  rw [hsp] at Y
  have hbs : bs [p, q, s] = [B p, B q, B s] := rfl
  rw [hbs] at Y
  obtain ⟨RV, hRV⟩ : ∃ RV, parts3 p q s (tail 45 (core 43 (tl o))) (tail 43 (tl o)) = RV := ⟨_, rfl⟩
  rw [hRV]
  have hRV' := Aside0.mk hRV
  have hxs' := Aside0.mk hxs
  have hlen' := Aside0.mk hlen
  clear hRV hxs hlen hsp hok hl h1 h2 hs ho hbs
  generalize B (core 45 (core 43 (tl o))) = c at X Y
  generalize tail 45 (core 43 (tl o)) = u at X hRV'
  generalize tail 43 (tl o) = v at X hRV'
  go_enter Tryd.func90, Tryd.ntmps90
  go_wp2_with (first | (go_at_call 142; (with_reducible refine (X.out _).mono ?_); rintro e w1 ⟨rfl, hb1⟩; have HB1 := Aside0.mk (HB.out.trans (hb1.mono HB.out.size)); have HZ := Aside0.mk hb1; clear hb1 HB) | (go_at_call 127; (with_reducible refine (Y.out _).mono ?_); rintro e w2 ⟨⟨v2, rfl, hR⟩, hb2⟩; have HZ2 := Aside0.mk (HZ.out.trans (hb2.mono HZ.out.size)); obtain ⟨g, cc, rfl, hcl, hgb, hgl, hff, hcell⟩ := R_row hR (by simp); have HY := Aside0.mk hb2; have HC := Aside0.mk hcell; have HF := Aside0.mk hff; clear hR hb2 HZ hcell hff hcl))
  have HGA : Aside0 (GAt w (w2.alloc (.cells #[.int .u64 0, .int .u64 0, .int .u64 0] 131)) g w.heap.size w2.heap.size xs 0) := by
    have hzb := HZ2.out.size
    have hz : w.heap.size + 1 ≤ w2.heap.size := by simpa using hzb
    have h0 : (w.alloc (.cells #[.int .u64 0, .int .u64 0, .int .u64 0, .string ⟨#[]⟩, .string ⟨#[]⟩] 29)).heap[w.heap.size]? = some (.cells #[.int .u64 0, .int .u64 0, .int .u64 0, .string ⟨#[]⟩, .string ⟨#[]⟩] 29 (0, 0)) := by show (w.heap.push _)[w.heap.size]? = _; rw [Array.getElem?_push, if_pos rfl]
    have hB2 := ((Below.refl _ w).alloc (Nat.le_refl _) (.cells #[.int .u64 0, .int .u64 0, .int .u64 0, .string ⟨#[]⟩, .string ⟨#[]⟩] 29)).trans (HZ2.out.mono (by simp))
    have hrow : Row3 w2 g (B (xs.getD 0 [])) (B (xs.getD 1 [])) (B (xs.getD 2 [])) := by
      rw [hxs'.out]
      exact ⟨hgl, HF.out, HC.out 0 (by simp), HC.out 1 (by simp), HC.out 2 (by simp)⟩
    have hA2 := (Below.refl _ w2).alloc (Nat.le_refl _) (.cells #[.int .u64 0, .int .u64 0, .int .u64 0] 131)
    refine ⟨⟨hrow.below hA2, blk_below (blk_below h0 HZ2.out) hA2, ?_, by omega, by omega, Nat.le_refl _, by omega, hB2.trans (hA2.mono hB2.size)⟩⟩
    show (w2.heap.push _)[w2.heap.size]? = _
    rw [Array.getElem?_push, if_pos rfl]
    simp [selN]
  clear HC HF HZ2 HY HB1 X Y hgb hgl
  generalize w2.heap.size = A at HGA ⊢
  go_loopg [33] 3 (fun gf v33 wr => ∃ i : Nat, v33 = .int .i64 i ∧ Aside0 (i + gf = 3) ∧ Aside0 (∀ j, j < i → numB (xs.getD j []) ≠ none) ∧ Aside0 (GAt w wr g w.heap.size A xs i))
  case atStart => exact ⟨0, rfl, ⟨rfl⟩, ⟨fun j hj => by omega⟩, HGA⟩
  case round =>
    obtain ⟨i, rfl, hi, hz, HA⟩ := hrel
    by_cases hlt : i < 3
    · have hcell : wr.cell? ⟨g, i, none⟩ = some (.string (B (xs.getD i []))) := by
        obtain ⟨c0, c1, c2⟩ := HA.out.row.cells
        rcases i with _ | _ | _ | i
        · exact c0
        · exact c1
        · exact c2
        · omega
      have herr : numB (xs.getD i []) = none → RV = none := fun h => by rw [← hRV'.out]; rw [hxs'.out] at h; exact parts3_no hlt h
      have hnext : numB (xs.getD i []) ≠ none → ∀ j, j < i + 1 → numB (xs.getD j []) ≠ none := fun h j hj => by
        rcases Nat.lt_or_ge j i with h' | h'
        · exact hz.out j h'
        · obtain rfl : j = i := by omega
          exact h
      have hsz := hlen'.out i
      have hst := fun w1 (h : GAt w w1 g w.heap.size A xs i) => h.store hlt
      have GO := Aside0.mk herr
      have ON := Aside0.mk hnext
      have ST := Aside0.mk hst
      clear herr hnext hst hz
      have XN0 := fun w1 => Number_c (xs.getD i []) hsz w1
      obtain ⟨l, hl⟩ : ∃ l, xs.getD i [] = l := ⟨_, rfl⟩
      rw [hl] at hcell GO ON ST hsz XN0
      have c0 : decide ((i : Int) < 3) = true := decide_eq_true (by omega)
      have hD := numB_D l
      cases hnd : numD l with
      | none =>
        rw [hnd] at XN0 hD
        have hR := GO.out (by rw [hD]; split <;> rfl)
        subst hR
        have XN := Aside0.mk XN0
        clear XN0 hD hnd hl ST
        go_wp2_with (first | (go_at_call 46; (with_reducible refine (XN.out _).mono ?_); rintro e w9 ⟨rfl, hb⟩; have HA9 := Aside0.mk (HA.out.below hb); obtain ⟨z0, z1, z2, z3, z4⟩ : w9.cell? ⟨w.heap.size, 0, none⟩ = some (.int .u64 0) ∧ w9.cell? ⟨w.heap.size, 1, none⟩ = some (.int .u64 0) ∧ w9.cell? ⟨w.heap.size, 2, none⟩ = some (.int .u64 0) ∧ w9.cell? ⟨w.heap.size, 3, none⟩ = some (.string ⟨#[]⟩) ∧ w9.cell? ⟨w.heap.size, 4, none⟩ = some (.string ⟨#[]⟩) := ⟨(blk_cell HA9.out.res 0).trans rfl, (blk_cell HA9.out.res 1).trans rfl, (blk_cell HA9.out.res 2).trans rfl, (blk_cell HA9.out.res 3).trans rfl, (blk_cell HA9.out.res 4).trans rfl⟩; have y0 := blk_frozen HA9.out.res 0; have y1 := blk_frozen HA9.out.res 1; have y2 := blk_frozen HA9.out.res 2; have y3 := blk_frozen HA9.out.res 3; have y4 := blk_frozen HA9.out.res 4; clear hb))
        exact bodyPost_ret (v := specVal none) (by simp [specVal, results, Tryd.results90, go_sem, z0, z1, z2, z3, z4]) rfl ⟨rfl, by first | exact HA9.out.B | exact ((((HA9.out.B.setCell (Nat.le_refl _) _).setCell (Nat.le_refl _) _).setCell (Nat.le_refl _) _).setCell (Nat.le_refl _) _).setCell (Nat.le_refl _) _⟩
      | some n =>
        rw [hnd] at XN0 hD
        have htl : tl (B l) = l := tl_B l
        have hsB : (B l).size = l.length := B_size l
        have XN := Aside0.mk XN0
        clear XN0 hnd
        obtain ⟨x, hx⟩ : ∃ x, B l = x := ⟨_, rfl⟩
        rw [hx] at hcell XN htl hsB
        by_cases c12 : 1 < x.size
        · have c12b0 : decide (1 < (x.size : Int)) = true := decide_eq_true (by omega)
          have c12b1 : decide (1 < x.size) = true := decide_eq_true c12
          have c13b0 : decide (0 < (x.size : Int)) = true := decide_eq_true (by omega)
          have c13b1 : decide (0 < x.size) = true := decide_eq_true (by omega)
          have zz := zero_bt x (by omega)
          have hz0 : 0 < x.size := by omega
          by_cases c15 : bt x 0 = 48
          · have zl : zeroL l = true := by rw [← htl]; unfold zeroL; rw [← size_data, decide_eq_true c12, decide_eq_true (zz.1 c15)]; rfl
            have hR := GO.out (by rw [hD, if_pos zl])
            subst hR
            have c15b0 : (((x[0]'hz0).toNat : Int) == 48) = true := by rw [beq_iff_eq, ← c15]; exact bt_at x 0 hz0
            clear c15 zz c12 zl hD htl hsB hx hl ST
            go_wp2_with (first | (go_at_call 46; (with_reducible refine (XN.out _).mono ?_); rintro e w9 ⟨rfl, hb⟩; have HA9 := Aside0.mk (HA.out.below hb); obtain ⟨z0, z1, z2, z3, z4⟩ : w9.cell? ⟨w.heap.size, 0, none⟩ = some (.int .u64 0) ∧ w9.cell? ⟨w.heap.size, 1, none⟩ = some (.int .u64 0) ∧ w9.cell? ⟨w.heap.size, 2, none⟩ = some (.int .u64 0) ∧ w9.cell? ⟨w.heap.size, 3, none⟩ = some (.string ⟨#[]⟩) ∧ w9.cell? ⟨w.heap.size, 4, none⟩ = some (.string ⟨#[]⟩) := ⟨(blk_cell HA9.out.res 0).trans rfl, (blk_cell HA9.out.res 1).trans rfl, (blk_cell HA9.out.res 2).trans rfl, (blk_cell HA9.out.res 3).trans rfl, (blk_cell HA9.out.res 4).trans rfl⟩; have y0 := blk_frozen HA9.out.res 0; have y1 := blk_frozen HA9.out.res 1; have y2 := blk_frozen HA9.out.res 2; have y3 := blk_frozen HA9.out.res 3; have y4 := blk_frozen HA9.out.res 4; clear hb))
            exact bodyPost_ret (v := specVal none) (by simp [specVal, results, Tryd.results90, go_sem, z0, z1, z2, z3, z4]) rfl ⟨rfl, by first | exact HA9.out.B | exact ((((HA9.out.B.setCell (Nat.le_refl _) _).setCell (Nat.le_refl _) _).setCell (Nat.le_refl _) _).setCell (Nat.le_refl _) _).setCell (Nat.le_refl _) _⟩
          · have zl : zeroL l = false := by rw [← htl]; unfold zeroL; rw [decide_eq_false (fun h => c15 (zz.2 h)), Bool.and_false]
            have c15b0 : (((x[0]'hz0).toNat : Int) == 48) = false := by rw [beq_eq_false_iff_ne]; intro h9; exact c15 ((bt_at x 0 hz0).symm.trans h9)
            clear c15 zz c12
            have hD2 : numB l = some n := by rw [hD, zl]; rfl
            have hz2 := Aside0.mk (ON.out (by rw [hD2]; exact Option.some_ne_none n))
            have hnB : nB l = n := by unfold nB; rw [hD2]; rfl
            rw [hnB] at ST
            clear hnB hD2 zl hD htl hsB hx hl GO ON hsz
            rcases i with _ | _ | _ | i
            · go_wp2_with (first | (go_at_call 46; (with_reducible refine (XN.out _).mono ?_); rintro e w9 ⟨rfl, hb⟩; have HA9 := Aside0.mk (HA.out.below hb); have a0 := (blk_cell HA9.out.arr 0).trans rfl; have a1 := blk_frozen HA9.out.arr 0; clear hb))
              have HA := Aside0.mk (ST.out _ HA9.out)
              go_roundg (gk - 1)
              case measure => have := hi.out; omega
              case rel => exact ⟨1, by go_num, ⟨by have := hi.out; omega⟩, hz2, HA⟩
            · go_wp2_with (first | (go_at_call 46; (with_reducible refine (XN.out _).mono ?_); rintro e w9 ⟨rfl, hb⟩; have HA9 := Aside0.mk (HA.out.below hb); have a0 := (blk_cell HA9.out.arr 1).trans rfl; have a1 := blk_frozen HA9.out.arr 1; clear hb))
              have HA := Aside0.mk (ST.out _ HA9.out)
              go_roundg (gk - 1)
              case measure => have := hi.out; omega
              case rel => exact ⟨2, by go_num, ⟨by have := hi.out; omega⟩, hz2, HA⟩
            · go_wp2_with (first | (go_at_call 46; (with_reducible refine (XN.out _).mono ?_); rintro e w9 ⟨rfl, hb⟩; have HA9 := Aside0.mk (HA.out.below hb); have a0 := (blk_cell HA9.out.arr 2).trans rfl; have a1 := blk_frozen HA9.out.arr 2; clear hb))
              have HA := Aside0.mk (ST.out _ HA9.out)
              go_roundg (gk - 1)
              case measure => have := hi.out; omega
              case rel => exact ⟨3, by go_num, ⟨by have := hi.out; omega⟩, hz2, HA⟩
            · omega
        · have zl : zeroL l = false := by rw [← htl]; unfold zeroL; rw [← size_data, decide_eq_false c12, Bool.false_and]
          have c12b0 : decide (1 < (x.size : Int)) = false := decide_eq_false (by omega)
          have c12b1 : decide (1 < x.size) = false := decide_eq_false c12
          clear c12
          have hD2 : numB l = some n := by rw [hD, zl]; rfl
          have hz2 := Aside0.mk (ON.out (by rw [hD2]; exact Option.some_ne_none n))
          have hnB : nB l = n := by unfold nB; rw [hD2]; rfl
          rw [hnB] at ST
          clear hnB hD2 zl hD htl hsB hx hl GO ON hsz
          rcases i with _ | _ | _ | i
          · go_wp2_with (first | (go_at_call 46; (with_reducible refine (XN.out _).mono ?_); rintro e w9 ⟨rfl, hb⟩; have HA9 := Aside0.mk (HA.out.below hb); have a0 := (blk_cell HA9.out.arr 0).trans rfl; have a1 := blk_frozen HA9.out.arr 0; clear hb))
            have HA := Aside0.mk (ST.out _ HA9.out)
            go_roundg (gk - 1)
            case measure => have := hi.out; omega
            case rel => exact ⟨1, by go_num, ⟨by have := hi.out; omega⟩, hz2, HA⟩
          · go_wp2_with (first | (go_at_call 46; (with_reducible refine (XN.out _).mono ?_); rintro e w9 ⟨rfl, hb⟩; have HA9 := Aside0.mk (HA.out.below hb); have a0 := (blk_cell HA9.out.arr 1).trans rfl; have a1 := blk_frozen HA9.out.arr 1; clear hb))
            have HA := Aside0.mk (ST.out _ HA9.out)
            go_roundg (gk - 1)
            case measure => have := hi.out; omega
            case rel => exact ⟨2, by go_num, ⟨by have := hi.out; omega⟩, hz2, HA⟩
          · go_wp2_with (first | (go_at_call 46; (with_reducible refine (XN.out _).mono ?_); rintro e w9 ⟨rfl, hb⟩; have HA9 := Aside0.mk (HA.out.below hb); have a0 := (blk_cell HA9.out.arr 2).trans rfl; have a1 := blk_frozen HA9.out.arr 2; clear hb))
            have HA := Aside0.mk (ST.out _ HA9.out)
            go_roundg (gk - 1)
            case measure => have := hi.out; omega
            case rel => exact ⟨3, by go_num, ⟨by have := hi.out; omega⟩, hz2, HA⟩
          · omega
    · obtain rfl : i = 3 := by have := hi.out; omega
      have hR : RV = some ⟨nB p, nB q, nB s, u, v⟩ := by
        rw [← hRV'.out]
        have := hz.out
        rw [hxs'.out] at this
        exact parts3_yes this
      subst hR
      have hn0 : selN xs 3 0 = ((nB p : Nat) : Int) := by rw [hxs'.out]; rfl
      have hn1 : selN xs 3 1 = ((nB q : Nat) : Int) := by rw [hxs'.out]; rfl
      have hn2 : selN xs 3 2 = ((nB s : Nat) : Int) := by rw [hxs'.out]; rfl
      have harr := HA.out.arr
      rw [hn0, hn1, hn2] at harr
      have a0 := (blk_cell harr 0).trans rfl
      have a1 := (blk_cell harr 1).trans rfl
      have a2 := (blk_cell harr 2).trans rfl
      have HA9 := HA
      clear hn0 hn1 hn2 harr hz hi hlt
      obtain ⟨wr0, hwr0⟩ : ∃ w9, wr = w9 := ⟨_, rfl⟩
      subst hwr0
      obtain ⟨z0, z1, z2, z3, z4⟩ : wr.cell? ⟨w.heap.size, 0, none⟩ = some (.int .u64 0) ∧ wr.cell? ⟨w.heap.size, 1, none⟩ = some (.int .u64 0) ∧ wr.cell? ⟨w.heap.size, 2, none⟩ = some (.int .u64 0) ∧ wr.cell? ⟨w.heap.size, 3, none⟩ = some (.string ⟨#[]⟩) ∧ wr.cell? ⟨w.heap.size, 4, none⟩ = some (.string ⟨#[]⟩) := ⟨(blk_cell HA9.out.res 0).trans rfl, (blk_cell HA9.out.res 1).trans rfl, (blk_cell HA9.out.res 2).trans rfl, (blk_cell HA9.out.res 3).trans rfl, (blk_cell HA9.out.res 4).trans rfl⟩
      have y0 := blk_frozen HA9.out.res 0
      have y1 := blk_frozen HA9.out.res 1
      have y2 := blk_frozen HA9.out.res 2
      have y3 := blk_frozen HA9.out.res 3
      have y4 := blk_frozen HA9.out.res 4
      go_wp2_with fail
      exact bodyPost_ret (v := specVal (some ⟨nB p, nB q, nB s, u, v⟩)) (by simp [specVal, results, Tryd.results90, go_sem, z0, z1, z2, z3, z4]) rfl ⟨rfl, by first | exact HA9.out.B | exact ((((HA9.out.B.setCell (Nat.le_refl _) _).setCell (Nat.le_refl _) _).setCell (Nat.le_refl _) _).setCell (Nat.le_refl _) _).setCell (Nat.le_refl _) _⟩
end Go.Proofs.YtalpehfjjidfhaaDoor.MS
