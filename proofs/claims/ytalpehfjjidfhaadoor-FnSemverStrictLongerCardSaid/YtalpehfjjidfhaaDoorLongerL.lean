/- What is proved: FnSemverStrictLonger: the plain law and the law's own walk. -/
import Derived.Test.YtalpehfjjidfhaaDoorMLx1
import Derived.Test.YtalpehfjjidfhaaDoorMVx1
namespace Go.Proofs.YtalpehfjjidfhaaDoor.ML
open Go Go.RowKit Sv Hand MS
open Go.Proofs.YtalpehfjjidfhaaDoorW.PrintWords Go.Proofs.YtalpehfjjidfhaaDoorW.PrintLast Go.Proofs.YtalpehfjjidfhaaDoorW.PrintMore
open Go.Proofs.YtalpehfjjidfhaaDoor.MA (tl identB identL digsL okPre okSmall validPre smallPre all_bs bs_size)
set_option linter.unusedVariables false
set_option linter.unusedSimpArgs false
attribute [local go_sem high] MV.eqA29
theorem SmallPre_l0 (xs : List ByteArray) (M : Nat) (hM : M < 8796093022200) (hx : ∀ x ∈ xs, x.size ≤ M) (hl : xs.length < 8796093022208) : ∀ (rest : List ByteArray) (i k : Nat), xs.drop i = rest → rest.length + M < k →
    spec_SmallPre.l0 k xs (xs.length : Int) (i : Int) = some (rest.all fun x => okSmall (tl x))
  | [], i, k, hd, hk => by
    obtain ⟨k, rfl⟩ : ∃ k', k = k' + 1 := ⟨k - 1, by omega⟩
    have := drop_nil hd
    unfold spec_SmallPre.l0
    rw [if_neg (by omega)]; rfl
  | c :: r, i, k, hd, hk => by
    obtain ⟨k, rfl⟩ : ∃ k', k = k' + 1 := ⟨k - 1, by omega⟩
    have hlt := drop_lt hd
    have hc : c.size ≤ M := hx c (by rw [← List.take_append_drop i xs, hd]; simp)
    have hk' : r.length + M < k := by simp at hk; omega
    have ih := SmallPre_l0 xs M hM hx hl r (i + 1) k (drop_succ hd) hk'
    unfold spec_SmallPre.l0
    rw [if_pos (by omega), if_pos (by omega), if_pos (by omega), rdOf_drop hd, Digits_f c (by omega) k (by omega), w1 i (by omega), ih]
    simp only [Option.bind_some, List.all_cons]
    unfold okSmall
    have hsz : (tl c).length = c.size := (size_data c).symm
    by_cases h2 : digsL (tl c) = true
    · rw [if_pos h2, h2]
      by_cases h3 : (c.size : Int) > 19
      · rw [if_pos h3]
        have : ¬ (tl c).length ≤ 19 := by omega
        rw [decide_eq_false this]; rfl
      · rw [if_neg h3]
        have : (tl c).length ≤ 19 := by omega
        rw [decide_eq_true this]; rfl
    · rw [if_neg h2, Bool.eq_false_iff.2 h2]; rfl

theorem SmallPre_f (a : ByteArray) (ha : a.size < 1000000000000) (k : Nat) (hk : 2 * a.size + 3 < k) : spec_SmallPre.f k a = some (smallPre a) := by
  have hsz : (tl a).length = a.size := (size_data a).symm
  have l1 := splitD_length (tl a)
  unfold spec_SmallPre.f
  rw [Identifiers_f a (by omega) k (by omega), Option.bind_some]
  have := SmallPre_l0 (bs (splitD (tl a))) a.size (by omega) (by rw [← hsz]; exact bs_size (splitD_mem (tl a))) (by rw [bs_length]; omega) (bs (splitD (tl a))) 0 k rfl (by rw [bs_length]; omega)
  rw [all_bs] at this
  exact this
theorem svShort1 (x : ByteArray) (k : Nat) (hk : 2 ≤ k) : MS.laws_svShort.f k [x] = some (decide (x.size ≤ 65536)) := by
  obtain ⟨k, rfl⟩ : ∃ k', k = k' + 2 := ⟨k - 2, by omega⟩
  unfold MS.laws_svShort.f MS.laws_svShort.l0
  rw [if_pos (by simp), if_pos (by omega), if_pos (by simp)]
  have e : rdOf ByteArray.empty [x] 0 = x := rfl
  rw [e]
  by_cases h : (x.size : Int) > 65536
  · rw [if_pos h, decide_eq_false (by omega)]
  · rw [if_neg h, decide_eq_true (by omega)]
    unfold MS.laws_svShort.l0
    have e2 : wrap64 (0 + 1) = 1 := by unfold wrap64; omega
    have e3 : (([x].length : Nat) : Int) = 1 := rfl
    rw [e2, e3, if_neg (by omega)]
theorem svIdent_f (a : ByteArray) (ha : a.size ≤ 64) : laws_svIdent.f (2 * a.size + 4) a = some (identL (tl a) && (validPre a && smallPre a)) := by
  unfold laws_svIdent.f
  rw [svShort1 a _ (by omega), decide_eq_true (show a.size ≤ 65536 by omega), Option.bind_some, if_pos rfl, ValidIdent_f a (by omega) _ (by omega), Option.bind_some]
  cases h1 : identL (tl a) with
  | false => rfl
  | true =>
    rw [if_pos rfl, ValidPre_f a (by omega) _ (by omega), Option.bind_some]
    cases h2 : validPre a with
    | false => rfl
    | true =>
      rw [if_pos rfl, SmallPre_f a (by omega) _ (by omega), Option.bind_some]
      rfl
theorem ident_not {c : UInt8} {l : List UInt8} (h : identL l = true) (hc : identB c = false) : c ∉ l := by
  intro hm
  unfold identL at h
  simp only [Bool.and_eq_true] at h
  have := List.all_eq_true.1 h.1 c hm
  rw [hc] at this; cases this
theorem splitD_id {l : List UInt8} (h : identL l = true) : splitD l = [l] := splitD_none (ident_not h (by decide))
theorem cut_more {c : UInt8} {a x y : List UInt8} (b : List UInt8) (h : cut c a = some (x, y)) : cut c (a ++ b) = some (x, y ++ b) := by
  obtain ⟨e, n⟩ := cut_some h
  rw [e, List.append_assoc, List.cons_append]
  exact cut_app _ n
theorem has_more {c : UInt8} {a : List UInt8} (b : List UInt8) (h : has c a = true) : has c (a ++ b) = true ∧ core c (a ++ b) = core c a ∧ tail c (a ++ b) = tail c a ++ b := by
  have h2 := cut_more b (has_some h)
  unfold has core tail
  rw [h2, has_some h]
  exact ⟨rfl, rfl, rfl⟩
theorem has_not {c : UInt8} {l : List UInt8} : has c l = false ↔ c ∉ l := by
  unfold has
  rw [← cut_none]
  cases cut c l <;> simp
theorem has_no {c : UInt8} {a : List UInt8} (b : List UInt8) (h : has c a = false) : core c (a ++ b) = a ++ core c b ∧ tail c (a ++ b) = tail c b ∧ has c (a ++ b) = has c b :=
  core_app b (has_not.1 h)
theorem valid_more (p : List UInt8 → Bool) (a i : List UInt8) (hi : identL i = true) : (splitD (a ++ 46 :: i)).all p = ((splitD a).all p && p i) := by
  rw [splitD_app, splitD_id hi]
  simp
/-- One more identifier behind a version's text. -/
theorem longer_spec (l i : List UInt8) (hid : identL i = true) (hok : okPre i = true) (M m t : Nat) (u v : List UInt8) (hP : specV l = some ⟨M, m, t, u, v⟩) :
    specV (l ++ 46 :: i) = if v ≠ [] then some ⟨M, m, t, u, v ++ 46 :: i⟩ else if u ≠ [] then some ⟨M, m, t, u ++ 46 :: i, v⟩ else none := by
  rw [specV_alt] at hP
  cases hT : okT l with
  | false => rw [hT] at hP; cases hP
  | true =>
    rw [hT, if_pos rfl] at hP
    have h3 : (splitD (core 45 (core 43 l))).length = 3 := by
      by_cases h : (splitD (core 45 (core 43 l))).length = 3
      · exact h
      · exact absurd (hP.symm.trans (three (f := fun a b c => parts3 a b c (tail 45 (core 43 l)) (tail 43 l)) h)) (by simp)
    obtain ⟨a, b, c, hsp⟩ : ∃ a b c, splitD (core 45 (core 43 l)) = [a, b, c] := by
      generalize splitD (core 45 (core 43 l)) = L at h3
      match L, h3 with
      | [p, q, s], _ => exact ⟨p, q, s, rfl⟩
    rw [hsp] at hP
    have hPu : u = tail 45 (core 43 l) ∧ v = tail 43 l ∧ ∀ u' v', parts3 a b c u' v' = some ⟨M, m, t, u', v'⟩ := by
      revert hP
      show parts3 a b c _ _ = _ → _
      unfold parts3
      cases numB a <;> cases numB b <;> cases numB c <;> simp
      intro h1 h2 h3 h4 h5
      exact ⟨h4.symm, h5.symm, h1, h2, h3⟩
    obtain ⟨hu, hv, hp3⟩ := hPu
    have hi46 : (46 : UInt8) :: i ≠ [] := by simp
    unfold okT at hT
    rw [specV_alt]
    unfold okT
    by_cases hhm : has 43 l = true
    · -- metadata
      obtain ⟨g1, g2, g3⟩ := has_more (46 :: i) hhm
      rw [g1, g2, g3, hsp]
      rw [hhm] at hT
      simp only [Bool.not_true, Bool.false_or, Bool.and_eq_true] at hT
      have hvne : v ≠ [] := by
        rw [hv]
        intro h
        rw [h] at hT
        exact absurd hT.1 (by decide)
      conv => rhs; rw [if_pos hvne]
      have e1 : validM (tail 43 l ++ 46 :: i) = true := by unfold validM; rw [valid_more identL _ _ hid]; rw [show (splitD (tail 43 l)).all identL = true from hT.1, hid]; rfl
      rw [e1]
      simp only [Bool.not_true, Bool.false_or, Bool.true_and]
      rw [if_pos hT.2]
      show parts3 a b c _ _ = _
      rw [hp3, ← hu, ← hv]
    · have hhm' : has 43 l = false := by simpa using hhm
      have hi43 : has 43 (46 :: i) = false := has_not.2 (by
        intro h
        rcases List.mem_cons.1 h with h | h
        · cases h
        · exact ident_not hid (by decide) h)
      obtain ⟨x1, x2⟩ := has_none hhm'
      obtain ⟨y1, y2⟩ := has_none hi43
      obtain ⟨g1, g2, g3⟩ := has_no (46 :: i) hhm'
      rw [y1] at g1
      rw [y2] at g2
      rw [hi43] at g3
      have hv0 : v = [] := by rw [hv, x2]
      conv => rhs; rw [if_neg (fun h => h hv0)]
      rw [x1] at hsp hu hT
      rw [g1, g2, g3]
      simp only [Bool.not_false, Bool.true_or, Bool.true_and]
      by_cases hhp : has 45 l = true
      · obtain ⟨k1, k2, k3⟩ := has_more (46 :: i) hhp
        rw [k1, k2, k3, hsp]
        rw [hhp, hhm'] at hT
        simp only [Bool.not_true, Bool.not_false, Bool.false_or, Bool.true_or, Bool.true_and] at hT
        have hune : u ≠ [] := by
          rw [hu]
          intro h
          rw [h] at hT
          exact absurd hT (by decide)
        conv => rhs; rw [if_pos hune]
        have e1 : validP (tail 45 l ++ 46 :: i) = true := by unfold validP; rw [valid_more okPre _ _ hid]; rw [show (splitD (tail 45 l)).all okPre = true from hT, hok]; rfl
        rw [e1]
        simp only [Bool.not_true, Bool.false_or, if_true]
        show parts3 a b c _ _ = _
        rw [hp3, ← hu, hv0]
      · have hhp' : has 45 l = false := by simpa using hhp
        obtain ⟨z1, z2⟩ := has_none hhp'
        obtain ⟨k1, k2, k3⟩ := has_no (46 :: i) hhp'
        have hu0 : u = [] := by rw [hu, z2]
        conv => rhs; rw [if_neg (fun h => h hu0)]
        split
        · refine three (f := fun a b c => parts3 a b c _ _) ?_
          rw [k1]
          have e4 : core 45 (46 :: i) = 46 :: core 45 i := by
            have := (core_app (c := 45) (a := [46]) i (by decide)).1
            exact this
          rw [e4, splitD_app, List.length_append]
          rw [z1] at hsp
          rw [hsp]
          have := splitD_ne (core 45 i)
          have : 0 < (splitD (core 45 i)).length := List.length_pos_iff.2 this
          simp only [List.length_cons, List.length_nil]
          omega
        · rfl
theorem strict_c (a : ByteArray) (P : Option Parts) (h : readV (tl a) = P) (hs : a.size ≤ 65536) (w : World) (hG : HandS.GlS w) :
    Calls Tryd.prog 34 #[.string a] w fun e w' => e = .returned (specVal P) ∧ Below w.heap.size w w' := by
  have h2 : HandS.StrictVersion.f a = some (flatP P) := by unfold HandS.StrictVersion.f; rw [if_pos (by omega), h]
  rw [specVal_flat]
  exact HandS.StrictVersion.calls a _ _ _ _ _ _ w hG h2
theorem spec_c (a : ByteArray) (P : Option Parts) (h : readV (tl a) = P) (hs : a.size ≤ 65536) (w : World) :
    Calls Tryd.prog 35 #[.string a] w fun e w' => e = .returned (specVal P) ∧ Below w.heap.size w w' := by
  have h2 : HandS.SpecStrict.f a = some (flatP P) := by unfold HandS.SpecStrict.f HandS.StrictVersion.f; rw [if_pos (by omega), h]
  rw [specVal_flat]
  exact HandS.SpecStrict.calls a _ _ _ _ _ _ w h2
theorem ident_c (a : ByteArray) (ha : a.size ≤ 64) (w : World) : Calls Tryd.prog 33 #[.string a] w fun e w' => e = .returned (.bool (identL (tl a) && (validPre a && smallPre a))) ∧ Below w.heap.size w w' :=
  laws_svIdent.calls _ a _ w (svIdent_f a ha)
set_option maxHeartbeats 1000000 in
theorem longer_big (a b : ByteArray) (w : World) (ha : a.size ≤ 140737488351232) (hb : b.size ≤ 140737488351232) (h : 128 < a.size ∨ 64 < b.size) : Calls Tryd.prog 7 #[.string a, .string b] w fun e w' => e = .returned (.bool true) ∧ Below w.heap.size w w' := by
  cases h1 : decide (2147483647 < a.size) <;> cases h2 : decide (2147483647 < b.size) <;> cases h3 : decide (128 < a.size) <;> cases h4 : decide (64 < b.size)
  all_goals first | (exfalso; simp only [decide_eq_true_eq, decide_eq_false_iff_not] at h1 h2 h3 h4; omega) | skip
  all_goals
    clear h
    have g1 : decide ((2147483647 : Int) < (a.size : Int)) = _ := (decide_eq_decide.2 (by omega)).trans h1
    have g2 : decide ((2147483647 : Int) < (b.size : Int)) = _ := (decide_eq_decide.2 (by omega)).trans h2
    have g3 : decide ((128 : Int) < (a.size : Int)) = _ := (decide_eq_decide.2 (by omega)).trans h3
    have g4 : decide ((64 : Int) < (b.size : Int)) = _ := (decide_eq_decide.2 (by omega)).trans h4
    go_enter Tryd.func7, Tryd.ntmps7
    go_wp2
    go_ret
    exact ⟨rfl, Below.refl _ _⟩
set_option maxHeartbeats 1000000 in
theorem longer_odd (a b : ByteArray) (w : World) (ha : a.size ≤ 128) (hb : b.size ≤ 64) (h : (identL (tl b) && (validPre b && smallPre b)) = false) : Calls Tryd.prog 7 #[.string a, .string b] w fun e w' => e = .returned (.bool true) ∧ Below w.heap.size w w' := by
  have h1 : decide (2147483647 < a.size) = false := decide_eq_false (by omega)
  have h2 : decide (2147483647 < b.size) = false := decide_eq_false (by omega)
  have h3 : decide (128 < a.size) = false := decide_eq_false (by omega)
  have h4 : decide (64 < b.size) = false := decide_eq_false (by omega)
  have X0 := fun w1 => ident_c b hb w1
  rw [h] at X0
  have X := Aside0.mk X0
  clear X0 h
  go_enter Tryd.func7, Tryd.ntmps7
  go_wp2_with (first | (go_at_call 33; (with_reducible refine (X.out _).mono ?_); rintro e w1 ⟨rfl, hb1⟩))
  go_ret
  exact ⟨rfl, hb1⟩
set_option maxHeartbeats 2000000 in
theorem longer_none (a b : ByteArray) (w : World) (ha : a.size ≤ 128) (hb : b.size ≤ 64) (hG : HandS.GlS w) (h : (identL (tl b) && (validPre b && smallPre b)) = true) (hv : readV (tl a) = none) : Calls Tryd.prog 7 #[.string a, .string b] w fun e w' => e = .returned (.bool true) ∧ Below w.heap.size w w' := by
  have h1 : decide (2147483647 < a.size) = false := decide_eq_false (by omega)
  have h2 : decide (2147483647 < b.size) = false := decide_eq_false (by omega)
  have h3 : decide (128 < a.size) = false := decide_eq_false (by omega)
  have h4 : decide (64 < b.size) = false := decide_eq_false (by omega)
  have X0 := fun w1 => ident_c b hb w1
  rw [h] at X0
  have X := Aside0.mk X0
  have Y0 := fun w1 => strict_c a none hv (by omega) w1
  have Z0 := fun w1 => spec_c a none hv (by omega) w1
  dsimp only [specVal] at Y0 Z0
  have Y := Aside0.mk Y0
  have Z := Aside0.mk Z0
  have HG := Aside0.mk hG
  clear X0 Y0 Z0 h hv hG
  go_enter Tryd.func7, Tryd.ntmps7
  go_wp2_with (first | (go_at_call 33; (with_reducible refine (X.out _).mono ?_); rintro e w1 ⟨rfl, hb1⟩) | (go_at_call 34; (with_reducible refine (Y.out _ (HG.out.below hb1)).mono ?_); rintro e w2 ⟨rfl, hb2⟩; have hB2 := hb1.trans (hb2.mono hb1.size)) | (go_at_call 35; (with_reducible refine (Z.out _).mono ?_); rintro e w3 ⟨rfl, hb3⟩))
  go_ret
  have hz2 := hB2.size
  have hz3 := hb3.size
  have hB3 := (hB2.alloc hB2.size _).trans (hb3.mono (by simp; omega))
  exact ⟨rfl, hB3.alloc hB3.size _⟩
set_option maxHeartbeats 4000000 in
set_option maxRecDepth 100000 in
theorem longer_meta (a b : ByteArray) (w : World) (ha : a.size ≤ 128) (hb : b.size ≤ 64) (hG : HandS.GlS w) (h : (identL (tl b) && (validPre b && smallPre b)) = true) (M m t : Nat) (u v : List UInt8) (hv : readV (tl a) = some ⟨M, m, t, u, v⟩) (hul : (B u).size ≤ 256) (hvl : (B v).size ≤ 256) (hne : v ≠ []) (hw : readV (tl (a ++ ⟨#[46]⟩ ++ b)) = some ⟨M, m, t, u, v ++ 46 :: tl b⟩) : Calls Tryd.prog 7 #[.string a, .string b] w fun e w' => e = .returned (.bool true) ∧ Below w.heap.size w w' := by
  have h1 : decide (2147483647 < a.size) = false := decide_eq_false (by omega)
  have h2 : decide (2147483647 < b.size) = false := decide_eq_false (by omega)
  have h3 : decide (128 < a.size) = false := decide_eq_false (by omega)
  have h4 : decide (64 < b.size) = false := decide_eq_false (by omega)
  have X0 := fun w1 => ident_c b hb w1
  rw [h] at X0
  have X := Aside0.mk X0
  have Y0 := fun w1 => strict_c a _ hv (by omega) w1
  have Z0 := fun w1 => spec_c a _ hv (by omega) w1
  have V0 := fun w1 => strict_c (a ++ ⟨#[46]⟩ ++ b) _ hw (by rw [ByteArray.size_append, ByteArray.size_append, show (⟨#[46]⟩ : ByteArray).size = 1 from rfl]; omega) w1
  have ev : B (v ++ 46 :: tl b) = B v ++ (⟨#[46]⟩ ++ b) := bytes_ext (by simp [B])
  rw [show specVal (some ⟨M, m, t, u, v ++ 46 :: tl b⟩) = .tuple #[.agg #[.int .u64 M, .int .u64 m, .int .u64 t, .string (B u), .string (B v ++ (⟨#[46]⟩ ++ b))], .bool true] from by rw [← ev]; rfl] at V0
  have n1 : (B v).toList.isEmpty = false := by rw [ByteArray.toList_eq, show (B v).data.toList = v from tl_B v]; simpa using hne
  have n2 : (!(B v).toList.isEmpty) = true := by rw [n1]; rfl
  clear ev hne
  (try dsimp only [specVal] at Y0)
  (try dsimp only [specVal] at Z0)
  (try dsimp only [specVal] at V0)
  have Y := Aside0.mk Y0
  have Z := Aside0.mk Z0
  have V := Aside0.mk V0
  have HG := Aside0.mk hG
  clear X0 Y0 Z0 V0 h hv hG hw
  go_enter Tryd.func7, Tryd.ntmps7
  go_wp2_with (first | (go_at_call 33; (with_reducible refine (X.out _).mono ?_); rintro e w1 ⟨rfl, hb1⟩) | (go_at_call 34; (with_reducible refine (Y.out _ (HG.out.below hb1)).mono ?_); rintro e w2 ⟨rfl, hb2⟩; have hB2 := Aside0.mk (hb1.trans (hb2.mono hb1.size)); clear hb1 hb2; have BV2 : Aside0 ((w2.alloc (.cells #[.int .u64 (M : Int), .int .u64 (m : Int), .int .u64 (t : Int), .string (B u), .string (B v)] 29)).heap[w2.heap.size]? = some (.cells #[.int .u64 (M : Int), .int .u64 (m : Int), .int .u64 (t : Int), .string (B u), .string (B v)] 29 (0, 0))) := ⟨by show (w2.heap.push _)[w2.heap.size]? = _; rw [Array.getElem?_push, if_pos rfl]⟩) | (go_at_call 35; (with_reducible refine (Z.out _).mono ?_); rintro e w3 ⟨rfl, hb3⟩; have BV3 := Aside0.mk (blk_below BV2.out hb3); have hz3 := hb3.size; have hB3 := Aside0.mk ((hB2.out.alloc hB2.out.size _).trans (hb3.mono (by have := hB2.out.size; simp; omega))); clear BV2 hb3))
  refine (V.out _ (HG.out.below (hB3.out.alloc hB3.out.size _))).mono ?_
  rintro e w4 ⟨rfl, hb4⟩
  have hB4 := Aside0.mk ((hB3.out.alloc hB3.out.size _).trans (hb4.mono (by have := hB3.out.size; simp; omega)))
  have BV4 := Aside0.mk (blk_below (blk_alloc BV3.out _) hb4)
  have hz : w2.heap.size < w4.heap.size := by
    have := hb4.size
    simp at this hz3
    omega
  have hlo := hB2.out.size
  clear BV3 hb4 hz3 hB2 hB3
  generalize w2.heap.size = N at *
  have z0 := (blk_cell BV4.out 0).trans rfl
  have z1 := (blk_cell BV4.out 1).trans rfl
  have z2 := (blk_cell BV4.out 2).trans rfl
  have z3 := (blk_cell BV4.out 3).trans rfl
  have z4 := (blk_cell BV4.out 4).trans rfl
  have y3 := blk_frozen BV4.out 3
  have y4 := blk_frozen BV4.out 4
  have hne4 : ¬ w4.heap.size = N := by omega
  have hne5 : ¬ N = w4.heap.size := by omega
  go_wp2_with fail
  go_ret
  exact ⟨rfl, by first | exact (hB4.out.alloc hB4.out.size _).setCell hlo _ | exact hB4.out.alloc hB4.out.size _ | exact (hB4.out.setCell hlo _).alloc (by have := hB4.out.size; simp; omega) _⟩
set_option maxHeartbeats 4000000 in
set_option maxRecDepth 100000 in
theorem longer_pre (a b : ByteArray) (w : World) (ha : a.size ≤ 128) (hb : b.size ≤ 64) (hG : HandS.GlS w) (h : (identL (tl b) && (validPre b && smallPre b)) = true) (M m t : Nat) (u v : List UInt8) (hv : readV (tl a) = some ⟨M, m, t, u, v⟩) (hul : (B u).size ≤ 256) (hvl : (B v).size ≤ 256) (hv0 : v = []) (hne : u ≠ []) (hw : readV (tl (a ++ ⟨#[46]⟩ ++ b)) = some ⟨M, m, t, u ++ 46 :: tl b, v⟩) : Calls Tryd.prog 7 #[.string a, .string b] w fun e w' => e = .returned (.bool true) ∧ Below w.heap.size w w' := by
  have h1 : decide (2147483647 < a.size) = false := decide_eq_false (by omega)
  have h2 : decide (2147483647 < b.size) = false := decide_eq_false (by omega)
  have h3 : decide (128 < a.size) = false := decide_eq_false (by omega)
  have h4 : decide (64 < b.size) = false := decide_eq_false (by omega)
  have X0 := fun w1 => ident_c b hb w1
  rw [h] at X0
  have X := Aside0.mk X0
  have Y0 := fun w1 => strict_c a _ hv (by omega) w1
  have Z0 := fun w1 => spec_c a _ hv (by omega) w1
  have V0 := fun w1 => strict_c (a ++ ⟨#[46]⟩ ++ b) _ hw (by rw [ByteArray.size_append, ByteArray.size_append, show (⟨#[46]⟩ : ByteArray).size = 1 from rfl]; omega) w1
  have ev : B (u ++ 46 :: tl b) = B u ++ (⟨#[46]⟩ ++ b) := bytes_ext (by simp [B])
  subst hv0
  have ev0 : B [] = (⟨#[]⟩ : ByteArray) := rfl
  rw [show specVal (some ⟨M, m, t, u ++ 46 :: tl b, []⟩) = .tuple #[.agg #[.int .u64 M, .int .u64 m, .int .u64 t, .string (B u ++ (⟨#[46]⟩ ++ b)), .string ⟨#[]⟩], .bool true] from by rw [← ev]; rfl] at V0
  rw [show specVal (some ⟨M, m, t, u, []⟩) = .tuple #[.agg #[.int .u64 M, .int .u64 m, .int .u64 t, .string (B u), .string ⟨#[]⟩], .bool true] from rfl] at Y0 Z0
  have n1 : (B u).toList.isEmpty = false := by rw [ByteArray.toList_eq, show (B u).data.toList = u from tl_B u]; simpa using hne
  have n2 : (!(B u).toList.isEmpty) = true := by rw [n1]; rfl
  clear ev ev0 hne
  (try dsimp only [specVal] at Y0)
  (try dsimp only [specVal] at Z0)
  (try dsimp only [specVal] at V0)
  have Y := Aside0.mk Y0
  have Z := Aside0.mk Z0
  have V := Aside0.mk V0
  have HG := Aside0.mk hG
  clear X0 Y0 Z0 V0 h hv hG hw
  go_enter Tryd.func7, Tryd.ntmps7
  go_wp2_with (first | (go_at_call 33; (with_reducible refine (X.out _).mono ?_); rintro e w1 ⟨rfl, hb1⟩) | (go_at_call 34; (with_reducible refine (Y.out _ (HG.out.below hb1)).mono ?_); rintro e w2 ⟨rfl, hb2⟩; have hB2 := Aside0.mk (hb1.trans (hb2.mono hb1.size)); clear hb1 hb2; have BV2 : Aside0 ((w2.alloc (.cells #[.int .u64 (M : Int), .int .u64 (m : Int), .int .u64 (t : Int), .string (B u), .string (⟨#[]⟩)] 29)).heap[w2.heap.size]? = some (.cells #[.int .u64 (M : Int), .int .u64 (m : Int), .int .u64 (t : Int), .string (B u), .string (⟨#[]⟩)] 29 (0, 0))) := ⟨by show (w2.heap.push _)[w2.heap.size]? = _; rw [Array.getElem?_push, if_pos rfl]⟩) | (go_at_call 35; (with_reducible refine (Z.out _).mono ?_); rintro e w3 ⟨rfl, hb3⟩; have BV3 := Aside0.mk (blk_below BV2.out hb3); have hz3 := hb3.size; have hB3 := Aside0.mk ((hB2.out.alloc hB2.out.size _).trans (hb3.mono (by have := hB2.out.size; simp; omega))); clear BV2 hb3))
  refine (V.out _ (HG.out.below (hB3.out.alloc hB3.out.size _))).mono ?_
  rintro e w4 ⟨rfl, hb4⟩
  have hB4 := Aside0.mk ((hB3.out.alloc hB3.out.size _).trans (hb4.mono (by have := hB3.out.size; simp; omega)))
  have BV4 := Aside0.mk (blk_below (blk_alloc BV3.out _) hb4)
  have hz : w2.heap.size < w4.heap.size := by
    have := hb4.size
    simp at this hz3
    omega
  have hlo := hB2.out.size
  clear BV3 hb4 hz3 hB2 hB3
  generalize w2.heap.size = N at *
  have z0 := (blk_cell BV4.out 0).trans rfl
  have z1 := (blk_cell BV4.out 1).trans rfl
  have z2 := (blk_cell BV4.out 2).trans rfl
  have z3 := (blk_cell BV4.out 3).trans rfl
  have z4 := (blk_cell BV4.out 4).trans rfl
  have y3 := blk_frozen BV4.out 3
  have y4 := blk_frozen BV4.out 4
  have hne4 : ¬ w4.heap.size = N := by omega
  have hne5 : ¬ N = w4.heap.size := by omega
  go_wp2_with fail
  go_ret
  exact ⟨rfl, by first | exact (hB4.out.alloc hB4.out.size _).setCell hlo _ | exact hB4.out.alloc hB4.out.size _ | exact (hB4.out.setCell hlo _).alloc (by have := hB4.out.size; simp; omega) _⟩
set_option maxHeartbeats 4000000 in
set_option maxRecDepth 100000 in
theorem longer_bare (a b : ByteArray) (w : World) (ha : a.size ≤ 128) (hb : b.size ≤ 64) (hG : HandS.GlS w) (h : (identL (tl b) && (validPre b && smallPre b)) = true) (M m t : Nat) (u v : List UInt8) (hv : readV (tl a) = some ⟨M, m, t, u, v⟩) (hul : (B u).size ≤ 256) (hvl : (B v).size ≤ 256) (hv0 : v = []) (hu0 : u = []) (hw : readV (tl (a ++ ⟨#[46]⟩ ++ b)) = none) : Calls Tryd.prog 7 #[.string a, .string b] w fun e w' => e = .returned (.bool true) ∧ Below w.heap.size w w' := by
  have h1 : decide (2147483647 < a.size) = false := decide_eq_false (by omega)
  have h2 : decide (2147483647 < b.size) = false := decide_eq_false (by omega)
  have h3 : decide (128 < a.size) = false := decide_eq_false (by omega)
  have h4 : decide (64 < b.size) = false := decide_eq_false (by omega)
  have X0 := fun w1 => ident_c b hb w1
  rw [h] at X0
  have X := Aside0.mk X0
  have Y0 := fun w1 => strict_c a _ hv (by omega) w1
  have Z0 := fun w1 => spec_c a _ hv (by omega) w1
  have V0 := fun w1 => strict_c (a ++ ⟨#[46]⟩ ++ b) _ hw (by rw [ByteArray.size_append, ByteArray.size_append, show (⟨#[46]⟩ : ByteArray).size = 1 from rfl]; omega) w1
  subst hu0 hv0
  rw [show specVal (some ⟨M, m, t, [], []⟩) = .tuple #[.agg #[.int .u64 M, .int .u64 m, .int .u64 t, .string ⟨#[]⟩, .string ⟨#[]⟩], .bool true] from rfl] at Y0 Z0
  (try dsimp only [specVal] at Y0)
  (try dsimp only [specVal] at Z0)
  (try dsimp only [specVal] at V0)
  have Y := Aside0.mk Y0
  have Z := Aside0.mk Z0
  have V := Aside0.mk V0
  have HG := Aside0.mk hG
  clear X0 Y0 Z0 V0 h hv hG hw
  go_enter Tryd.func7, Tryd.ntmps7
  go_wp2_with (first | (go_at_call 33; (with_reducible refine (X.out _).mono ?_); rintro e w1 ⟨rfl, hb1⟩) | (go_at_call 34; (with_reducible refine (Y.out _ (HG.out.below hb1)).mono ?_); rintro e w2 ⟨rfl, hb2⟩; have hB2 := Aside0.mk (hb1.trans (hb2.mono hb1.size)); clear hb1 hb2; have BV2 : Aside0 ((w2.alloc (.cells #[.int .u64 (M : Int), .int .u64 (m : Int), .int .u64 (t : Int), .string (⟨#[]⟩), .string (⟨#[]⟩)] 29)).heap[w2.heap.size]? = some (.cells #[.int .u64 (M : Int), .int .u64 (m : Int), .int .u64 (t : Int), .string (⟨#[]⟩), .string (⟨#[]⟩)] 29 (0, 0))) := ⟨by show (w2.heap.push _)[w2.heap.size]? = _; rw [Array.getElem?_push, if_pos rfl]⟩) | (go_at_call 35; (with_reducible refine (Z.out _).mono ?_); rintro e w3 ⟨rfl, hb3⟩; have BV3 := Aside0.mk (blk_below BV2.out hb3); have hz3 := hb3.size; have hB3 := Aside0.mk ((hB2.out.alloc hB2.out.size _).trans (hb3.mono (by have := hB2.out.size; simp; omega))); clear BV2 hb3))
  refine (V.out _ (HG.out.below (hB3.out.alloc hB3.out.size _))).mono ?_
  rintro e w4 ⟨rfl, hb4⟩
  have hB4 := Aside0.mk ((hB3.out.alloc hB3.out.size _).trans (hb4.mono (by have := hB3.out.size; simp; omega)))
  have BV4 := Aside0.mk (blk_below (blk_alloc BV3.out _) hb4)
  have hz : w2.heap.size < w4.heap.size := by
    have := hb4.size
    simp at this hz3
    omega
  have hlo := hB2.out.size
  clear BV3 hb4 hz3 hB2 hB3
  generalize w2.heap.size = N at *
  have z0 := (blk_cell BV4.out 0).trans rfl
  have z1 := (blk_cell BV4.out 1).trans rfl
  have z2 := (blk_cell BV4.out 2).trans rfl
  have z3 := (blk_cell BV4.out 3).trans rfl
  have z4 := (blk_cell BV4.out 4).trans rfl
  have y3 := blk_frozen BV4.out 3
  have y4 := blk_frozen BV4.out 4
  have hne4 : ¬ w4.heap.size = N := by omega
  have hne5 : ¬ N = w4.heap.size := by omega
  go_wp2_with fail
  go_ret
  exact ⟨rfl, by first | exact (hB4.out.alloc hB4.out.size _).setCell hlo _ | exact hB4.out.alloc hB4.out.size _ | exact (hB4.out.setCell hlo _).alloc (by have := hB4.out.size; simp; omega) _⟩
theorem spec_le (l : List UInt8) (M m t : Nat) (u v : List UInt8) (hP : specV l = some ⟨M, m, t, u, v⟩) : u.length ≤ l.length ∧ v.length ≤ l.length := by
  have h1 := @tail_le 43 l
  have h2 := @tail_le 45 (core 43 l)
  have key : u = tail 45 (core 43 l) ∧ v = tail 43 l := by
    unfold specV at hP
    split at hP
    · cases hP
    split at hP
    · cases hP
    split at hP
    · rename_i a b c _
      unfold parts3 at hP
      revert hP
      cases numB a <;> cases numB b <;> cases numB c <;> simp
      intro _ _ _ h4 h5
      exact ⟨h4.symm, h5.symm⟩
    · cases hP
  obtain ⟨e1, e2⟩ := key
  rw [e1, e2]
  omega
theorem tl_join (a b : ByteArray) : tl (a ++ ⟨#[46]⟩ ++ b) = tl a ++ 46 :: tl b := by simp
theorem strictLonger_walk (a b : ByteArray) (w : World) (hG : HandS.GlS w) (ha : a.size ≤ 140737488351232) (hb : b.size ≤ 140737488351232) : Calls Tryd.prog 7 #[.string a, .string b] w fun e w' => e = .returned (.bool true) ∧ Below w.heap.size w w' := by
  by_cases h : 128 < a.size ∨ 64 < b.size
  · exact longer_big a b w ha hb h
  · have ha2 : a.size ≤ 128 := by omega
    have hb2 : b.size ≤ 64 := by omega
    cases hi : (identL (tl b) && (validPre b && smallPre b)) with
    | false => exact longer_odd a b w ha2 hb2 hi
    | true =>
      cases hv : readV (tl a) with
      | none => exact longer_none a b w ha2 hb2 hG hi hv
      | some P =>
        obtain ⟨M, m, t, u, v⟩ := P
        have hi2 := hi
        simp only [Bool.and_eq_true] at hi2
        obtain ⟨hid, hvp, _⟩ := hi2
        have hok : okPre (tl b) = true := by
          unfold validPre at hvp
          rw [splitD_id hid] at hvp
          simpa using hvp
        have hsa : a.size = (tl a).length := size_data a
        have hsb : b.size = (tl b).length := size_data b
        have hsp : specV (tl a) = some ⟨M, m, t, u, v⟩ := by
          unfold readV at hv
          rw [if_pos (by omega)] at hv
          exact hv
        have hle : (B u).size ≤ 256 ∧ (B v).size ≤ 256 := by have := spec_le (tl a) M m t u v hsp; rw [B_size, B_size]; omega
        have hl := longer_spec (tl a) (tl b) hid hok M m t u v hsp
        have hw : readV (tl (a ++ ⟨#[46]⟩ ++ b)) = if v ≠ [] then some ⟨M, m, t, u, v ++ 46 :: tl b⟩ else if u ≠ [] then some ⟨M, m, t, u ++ 46 :: tl b, v⟩ else none := by
          rw [tl_join]
          unfold readV
          rw [if_pos (by simp; omega)]
          exact hl
        by_cases hvn : v ≠ []
        · rw [if_pos hvn] at hw
          exact longer_meta a b w ha2 hb2 hG hi M m t u v hv hle.1 hle.2 hvn hw
        · rw [if_neg hvn] at hw
          have hv0 : v = [] := Classical.byContradiction hvn
          by_cases hun : u ≠ []
          · rw [if_pos hun] at hw
            exact longer_pre a b w ha2 hb2 hG hi M m t u v hv hle.1 hle.2 hv0 hun hw
          · rw [if_neg hun] at hw
            exact longer_bare a b w ha2 hb2 hG hi M m t u v hv hle.1 hle.2 hv0 (Classical.byContradiction hun) hw
end Go.Proofs.YtalpehfjjidfhaaDoor.ML
