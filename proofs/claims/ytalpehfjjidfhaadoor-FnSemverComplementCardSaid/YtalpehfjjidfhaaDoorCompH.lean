/- The plain law of FnSemverComplement: no program in sight. -/
import Derived.Test.YtalpehfjjidfhaaDoorListsP
import Derived.Test.YtalpehfjjidfhaaDoorSays
import Derived.Test.YtalpehfjjidfhaaDoorTrods
import Derived.Test.YtalpehfjjidfhaaDoorMHp
namespace Go.Proofs.YtalpehfjjidfhaaDoor.MP
open Go Go.RowKit Sv Hand
open Go.Proofs.YtalpehfjjidfhaaDoorW.PrintWords
open Go.Proofs.YtalpehfjjidfhaaDoor.MA (tl validPre smallPre digsL okPre okSmall bs_size)
set_option linter.unusedVariables false
set_option linter.unusedSimpArgs false
/-- The opposite of an operator: its number. -/
def opq (a : Int) : Int := if a = 0 then 1 else if a = 1 then 0 else if a = 2 then 5 else if a = 5 then 2 else if a = 3 then 4 else 3
theorem means_opp (op g c M1 m1 t1 M2 m2 t2 : Int) (ho : 0 ≤ op ∧ op < 6) (hu : g ≠ 3 → cnumI M1 m1 t1 M2 m2 t2 g = 0 → c ≥ 0) : meansB (opq op) g c M1 m1 t1 M2 m2 t2 = !meansB op g c M1 m1 t1 M2 m2 t2 := by
  generalize hn : cnumI M1 m1 t1 M2 m2 t2 g = n at hu
  rcases (show op = 0 ∨ op = 1 ∨ op = 2 ∨ op = 3 ∨ op = 4 ∨ op = 5 by omega) with rfl | rfl | rfl | rfl | rfl | rfl
  · rw [Bool.eq_iff_iff]
    by_cases h3 : g = 3
    · simp [meansB, opq, h3]
    · have := hu h3
      simp [meansB, opq, h3, hn]; omega
  · rw [Bool.eq_iff_iff]
    by_cases h3 : g = 3
    · simp [meansB, opq, h3]
    · have := hu h3
      simp [meansB, opq, h3, hn]; omega
  · rw [Bool.eq_iff_iff]
    simp [meansB, opq, hn]
  · rw [Bool.eq_iff_iff]
    simp [meansB, opq, hn]
  · rw [Bool.eq_iff_iff]
    simp [meansB, opq, hn]
  · rw [Bool.eq_iff_iff]
    simp [meansB, opq, hn]
def opp (x : S42) : S42 := ⟨opq x.f0, x.f1, x.f2, x.f3, x.f4, x.f5⟩
/-- Whether a term has an opposite. -/
def hasO (x : S42) : Bool := decide (0 ≤ x.f0 ∧ x.f0 < 6) && decide (x.f1 ≠ 0)
def cross (l d : List (List S42)) : List (List S42) := l.flatMap fun x => d.map fun y => x ++ y
def compF (l : List (List S42)) : List (List S42) → List (List S42)
  | [] => l
  | ts :: r => compF (cross l (ts.map fun x => [opp x])) r
def holdsS (s : S42 → Bool) (l : List (List S42)) : Bool := l.any (·.all s)
theorem holds_cross (s : S42 → Bool) (l d : List (List S42)) : holdsS s (cross l d) = (holdsS s l && holdsS s d) := by
  unfold holdsS cross
  rw [Bool.eq_iff_iff]
  simp only [List.any_eq_true, List.mem_flatMap, List.mem_map, Bool.and_eq_true]
  constructor
  · rintro ⟨z, ⟨x, hx, y, hy, rfl⟩, h⟩
    rw [List.all_append, Bool.and_eq_true] at h
    exact ⟨⟨x, hx, h.1⟩, ⟨y, hy, h.2⟩⟩
  · rintro ⟨⟨x, hx, h1⟩, ⟨y, hy, h2⟩⟩
    exact ⟨x ++ y, ⟨x, hx, y, hy, rfl⟩, by rw [List.all_append, h1, h2]; rfl⟩
theorem holds_opp (s : S42 → Bool) (ts : List S42) (h : ∀ x ∈ ts, s (opp x) = !s x) : holdsS s (ts.map fun x => [opp x]) = !(ts.all s) := by
  induction ts with
  | nil => rfl
  | cons x r ih =>
    have ih := ih (fun y hy => h y (List.mem_cons_of_mem _ hy))
    unfold holdsS at ih ⊢
    rw [List.map_cons, List.any_cons, ih, List.all_cons, List.all_cons, List.all_nil, Bool.and_true, h x List.mem_cons_self]
    cases s x <;> cases r.all s <;> rfl
theorem holds_comp (s : S42 → Bool) : ∀ (L : List (List S42)) (l : List (List S42)), (∀ ts ∈ L, ∀ x ∈ ts, s (opp x) = !s x) → holdsS s (compF l L) = (holdsS s l && !(holdsS s L))
  | [], l, _ => by simp [compF, holdsS]
  | ts :: r, l, h => by
    rw [compF, holds_comp s r _ (fun t ht => h t (List.mem_cons_of_mem _ ht)), holds_cross, holds_opp s ts (h ts List.mem_cons_self)]
    have e : holdsS s (ts :: r) = (ts.all s || holdsS s r) := by simp [holdsS]
    rw [e]
    cases holdsS s l <;> cases ts.all s <;> cases holdsS s r <;> rfl
theorem cross_len (l d : List (List S42)) : (cross l d).length = l.length * d.length := by
  unfold cross
  induction l with
  | nil => simp
  | cons x r ih => rw [List.flatMap_cons, List.length_append, ih, List.length_map, List.length_cons, Nat.succ_mul, Nat.add_comm]
theorem pow_ge (n : Nat) : n ≤ 2 ^ n := Nat.le_of_lt Nat.lt_two_pow_self
theorem comp_len : ∀ (L l : List (List S42)) (a : Nat), l.length ≤ 2 ^ a → (compF l L).length ≤ 2 ^ (a + lens L)
  | [], l, a, h => by simpa [compF, lens] using h
  | ts :: r, l, a, h => by
    rw [compF]
    have h2 : (cross l (ts.map fun x => [opp x])).length ≤ 2 ^ (a + ts.length) := by
      rw [cross_len, List.length_map, Nat.pow_add]
      exact Nat.mul_le_mul h (pow_ge _)
    have := comp_len r _ _ h2
    simp only [lens]
    rw [Nat.add_assoc] at this
    exact this
/-- What the terms of the opposite are: opposites of terms. -/
theorem comp_mem : ∀ (L l : List (List S42)) (n : Nat), (∀ x ∈ l, x.length ≤ n) → ∀ z ∈ compF l L, z.length ≤ n + L.length ∧ ∀ t ∈ z, (∃ x ∈ l, t ∈ x) ∨ ∃ ts ∈ L, ∃ x ∈ ts, t = opp x
  | [], l, n, h, z, hz => ⟨h z hz, fun t ht => Or.inl ⟨z, hz, ht⟩⟩
  | ts :: r, l, n, h, z, hz => by
    rw [compF] at hz
    have h2 : ∀ x ∈ cross l (ts.map fun x => [opp x]), x.length ≤ n + 1 := by
      intro x hx
      simp only [cross, List.mem_flatMap, List.mem_map] at hx
      obtain ⟨a, ha, y, ⟨b, hb, rfl⟩, rfl⟩ := hx
      have := h a ha
      simp
      omega
    obtain ⟨h3, h4⟩ := comp_mem r _ (n + 1) h2 z hz
    refine ⟨by simp; omega, fun t ht => ?_⟩
    rcases h4 t ht with ⟨x, hx, htx⟩ | ⟨us, hus, x, hx, rfl⟩
    · simp only [cross, List.mem_flatMap, List.mem_map] at hx
      obtain ⟨a, ha, y, ⟨b, hb, rfl⟩, rfl⟩ := hx
      rcases List.mem_append.1 htx with h5 | h5
      · exact Or.inl ⟨a, ha, h5⟩
      · exact Or.inr ⟨ts, List.mem_cons_self, b, hb, by simpa using h5⟩
    · exact Or.inr ⟨us, List.mem_cons_of_mem _ hus, x, hx, rfl⟩

theorem Opposite_ok {a : Int} (h : 0 ≤ a ∧ a < 6) : spec_Opposite.f a = some (opq a, true) := by
  rcases (show a = 0 ∨ a = 1 ∨ a = 2 ∨ a = 3 ∨ a = 4 ∨ a = 5 by omega) with rfl | rfl | rfl | rfl | rfl | rfl <;> rfl
theorem Opposite_no {a : Int} (h : ¬ (0 ≤ a ∧ a < 6)) : spec_Opposite.f a = some (a, false) := by
  unfold spec_Opposite.f
  rw [if_neg (by omega), if_neg (by omega), if_neg (by omega), if_neg (by omega), if_neg (by omega), if_neg (by omega)]
theorem cross_l1 (D L0 : List (List S42)) (n i : Int) (x : List S42) (hx : x.length ≤ 1000000) (hD : D.length ≤ 1000000) (hDe : ∀ y ∈ D, y.length ≤ 1000000) : ∀ (rest : List (List S42)) (j k : Nat) (acc : List (List S42)), D.drop j = rest → rest.length < k → acc.length + rest.length ≤ 1000000000 →
    spec_Cross.l1 k D acc x L0 n i D (D.length : Int) (j : Int) = spec_Cross.l0 (k - rest.length - 1) D (acc ++ rest.map (fun y => x ++ y)) L0 n (wrap64 (i + 1))
  | [], j, k, acc, hd, hk, ha => by
    obtain ⟨k, rfl⟩ : ∃ k', k = k' + 1 := ⟨k - 1, by omega⟩
    have := drop_nil hd
    conv => lhs; unfold spec_Cross.l1
    rw [if_neg (by omega)]
    simp
  | y :: r, j, k, acc, hd, hk, ha => by
    obtain ⟨k, rfl⟩ : ∃ k', k = k' + 1 := ⟨k - 1, by omega⟩
    have hlt := drop_lt hd
    simp only [List.length_cons] at hk ha
    have hy : y.length ≤ 1000000 := hDe y (by have h1 : y ∈ D.drop j := by rw [hd]; exact List.mem_cons_self
                                              exact List.mem_of_mem_drop h1)
    have ih := cross_l1 D L0 n i x hx hD hDe r (j + 1) k (acc ++ [x ++ y]) (drop_succ hd) (by omega) (by simp; omega)
    have hr : rd_L5 D (j : Int) = y := rdOf_drop hd
    conv => lhs; unfold spec_Cross.l1
    rw [if_pos (by omega), if_pos (by omega), if_pos (by omega), hr]
    simp only [Option.bind_some, List.length_nil, List.nil_append]
    rw [if_pos (by omega), if_pos (by omega), if_pos (by omega), w1 j (by omega), ih]
    congr 1
    · simp only [List.length_cons]; omega
    · simp
theorem cross_l0 (D L0 : List (List S42)) (hD : D.length ≤ 1000000) (hDe : ∀ y ∈ D, y.length ≤ 1000000) (hL : L0.length ≤ 1000000) : ∀ (rest : List (List S42)) (i k : Nat) (acc : List (List S42)), L0.drop i = rest → (∀ x ∈ rest, x.length ≤ 1000000) → rest.length * (D.length + 2) < k → acc.length + rest.length * D.length ≤ 1000000000 →
    spec_Cross.l0 k D acc L0 (L0.length : Int) (i : Int) = some (acc ++ cross rest D)
  | [], i, k, acc, hd, hx, hk, ha => by
    obtain ⟨k, rfl⟩ : ∃ k', k = k' + 1 := ⟨k - 1, by omega⟩
    have := drop_nil hd
    conv => lhs; unfold spec_Cross.l0
    rw [if_neg (by omega)]
    simp [cross]
  | x :: r, i, k, acc, hd, hx, hk, ha => by
    obtain ⟨k, rfl⟩ : ∃ k', k = k' + 1 := ⟨k - 1, by omega⟩
    have hlt := drop_lt hd
    simp only [List.length_cons, Nat.succ_mul] at hk ha
    have hr : rd_L5 L0 (i : Int) = x := rdOf_drop hd
    conv => lhs; unfold spec_Cross.l0
    rw [if_pos (by omega), if_pos (by omega), if_pos (by omega), hr]
    have h1 := cross_l1 D L0 (L0.length : Int) i x (hx x List.mem_cons_self) hD hDe D 0 k acc rfl (by omega) (by omega)
    rw [show ((0 : Nat) : Int) = 0 from rfl] at h1
    rw [h1, w1 i (by omega)]
    rw [cross_l0 D L0 hD hDe hL r (i + 1) (k - D.length - 1) (acc ++ D.map (fun y => x ++ y)) (drop_succ hd) (fun z hz => hx z (List.mem_cons_of_mem _ hz)) (by omega) (by simp; omega)]
    simp [cross]
theorem Cross_f (L0 D : List (List S42)) (hD : D.length ≤ 1000000) (hDe : ∀ y ∈ D, y.length ≤ 1000000) (hL : L0.length ≤ 1000000) (hLe : ∀ x ∈ L0, x.length ≤ 1000000) (hm : L0.length * D.length ≤ 1000000000) (k : Nat) (hk : L0.length * (D.length + 2) < k) : spec_Cross.f k L0 D = some (cross L0 D) := by
  have := cross_l0 D L0 hD hDe hL L0 0 k [] rfl hLe hk (by simpa using hm)
  simpa [spec_Cross.f] using this
theorem comp_l1 (L l : List (List S42)) (n i : Int) (ts : List S42) (hts : ts.length ≤ 1000000) : ∀ (rest : List S42) (j k : Nat) (d : List (List S42)), ts.drop j = rest → rest.length < k → d.length + rest.length ≤ 1000000 →
    spec_Complement.l1 k l d L n i ts (ts.length : Int) (j : Int) = some ([], false) ∨ ((∀ x ∈ rest, hasO x = true) ∧ spec_Complement.l1 k l d L n i ts (ts.length : Int) (j : Int) = (spec_Cross.f (k - rest.length - 1) l (d ++ rest.map (fun x => [opp x]))).bind fun t => spec_Complement.l0 (k - rest.length - 1) t L n (wrap64 (i + 1)))
  | [], j, k, d, hd, hk, ha => by
    obtain ⟨k, rfl⟩ : ∃ k', k = k' + 1 := ⟨k - 1, by omega⟩
    have := drop_nil hd
    right
    refine ⟨fun x hx => absurd hx (by simp), ?_⟩
    conv => lhs; unfold spec_Complement.l1
    rw [if_neg (by omega)]
    simp
  | y :: r, j, k, d, hd, hk, ha => by
    obtain ⟨k, rfl⟩ : ∃ k', k = k' + 1 := ⟨k - 1, by omega⟩
    have hlt := drop_lt hd
    simp only [List.length_cons] at hk ha
    have hr : rd_T42 ts (j : Int) = y := rdOf_drop hd
    by_cases h1 : 0 ≤ y.f0 ∧ y.f0 < 6
    · by_cases h2 : y.f1 = 0
      · left
        conv => lhs; unfold spec_Complement.l1
        rw [if_pos (by omega), if_pos (by omega), if_pos (by omega), hr, Opposite_ok h1]
        simp only [Option.bind_some]
        rw [if_pos trivial, if_pos h2]
      · have e : spec_Complement.l1 (k + 1) l d L n i ts (ts.length : Int) (j : Int) = spec_Complement.l1 k l (d ++ [[opp y]]) L n i ts (ts.length : Int) ((j + 1 : Nat) : Int) := by
          conv => lhs; unfold spec_Complement.l1
          rw [if_pos (by omega), if_pos (by omega), if_pos (by omega), hr, Opposite_ok h1]
          simp only [Option.bind_some]
          rw [if_pos trivial, if_neg h2, if_pos (by omega), w1 j (by omega)]
          rfl
        rw [e]
        rcases comp_l1 L l n i ts hts r (j + 1) k (d ++ [[opp y]]) (drop_succ hd) (by omega) (by simp; omega) with ih | ⟨ih1, ih2⟩
        · exact Or.inl ih
        · right
          refine ⟨fun x hx => ?_, ?_⟩
          · rcases List.mem_cons.1 hx with rfl | hx
            · unfold hasO; rw [decide_eq_true h1, decide_eq_true h2]; rfl
            · exact ih1 x hx
          · rw [ih2]
            simp only [List.length_cons, List.map_cons, List.append_assoc, List.cons_append, List.nil_append]
            rw [show k + 1 - (r.length + 1) - 1 = k - r.length - 1 by omega]
    · left
      conv => lhs; unfold spec_Complement.l1
      rw [if_pos (by omega), if_pos (by omega), if_pos (by omega), hr, Opposite_no h1]
      rfl
theorem comp_l0 (L : List (List S42)) (hL : L.length ≤ 1000) : ∀ (rest : List (List S42)) (i k : Nat) (l : List (List S42)) (a c : Nat), L.drop i = rest → l.length ≤ 2 ^ a → a + lens rest ≤ 10 → (∀ x ∈ l, x.length ≤ c) → c + rest.length ≤ 2000 → tot rest + 100000 < k →
    spec_Complement.l0 k l L (L.length : Int) (i : Int) = some ([], false) ∨ ((∀ ts ∈ rest, ∀ x ∈ ts, hasO x = true) ∧ spec_Complement.l0 k l L (L.length : Int) (i : Int) = some (compF l rest, true))
  | [], i, k, l, a, c, hd, hl, hb, hc, hr, hk => by
    obtain ⟨k, rfl⟩ : ∃ k', k = k' + 1 := ⟨k - 1, by omega⟩
    have := drop_nil hd
    right
    refine ⟨fun x hx => absurd hx (by simp), ?_⟩
    conv => lhs; unfold spec_Complement.l0
    rw [if_neg (by omega)]
    rfl
  | ts :: r, i, k, l, a, c, hd, hl, hb, hc, hr, hk => by
    obtain ⟨k, rfl⟩ : ∃ k', k = k' + 1 := ⟨k - 1, by omega⟩
    have hlt := drop_lt hd
    simp only [lens] at hb
    simp only [tot] at hk
    simp only [List.length_cons] at hr
    have hrd : rd_L5 L (i : Int) = ts := rdOf_drop hd
    have e : spec_Complement.l0 (k + 1) l L (L.length : Int) (i : Int) = spec_Complement.l1 k l [] L (L.length : Int) i ts (ts.length : Int) ((0 : Nat) : Int) := by
      conv => lhs; unfold spec_Complement.l0
      rw [if_pos (by omega), if_pos (by omega), if_pos (by omega), hrd]
      rfl
    rw [e]
    have h1024 : l.length ≤ 1024 := Nat.le_trans hl (Nat.le_trans (Nat.pow_le_pow_right (by omega) (show a ≤ 10 by omega)) (by decide))
    rcases comp_l1 L l (L.length : Int) i ts (by omega) ts 0 k [] rfl (by omega) (by simp; omega) with h | ⟨h1, h2⟩
    · exact Or.inl h
    · have hmul : l.length * (ts.length + 2) ≤ 1024 * 12 := Nat.mul_le_mul h1024 (by omega)
      have hmul2 : l.length * ts.length ≤ 1024 * 12 := Nat.mul_le_mul h1024 (by omega)
      rw [h2, List.nil_append, Cross_f l (ts.map fun x => [opp x]) (by simp; omega) (fun y hy => by simp only [List.mem_map] at hy; obtain ⟨z, _, rfl⟩ := hy; simp) (by omega) (fun x hx => by have := hc x hx; omega) (by simp; omega) (k - ts.length - 1) (by simp; omega)]
      simp only [Option.bind_some]
      rw [w1 i (by omega)]
      have hcl : (cross l (ts.map fun x => [opp x])).length ≤ 2 ^ (a + ts.length) := by
        rw [cross_len, List.length_map, Nat.pow_add]
        exact Nat.mul_le_mul hl (pow_ge _)
      have hce : ∀ x ∈ cross l (ts.map fun x => [opp x]), x.length ≤ c + 1 := by
        intro x hx
        simp only [cross, List.mem_flatMap, List.mem_map] at hx
        obtain ⟨p, hp, y, ⟨q, hq, rfl⟩, rfl⟩ := hx
        have := hc p hp
        simp
        omega
      rcases comp_l0 L hL r (i + 1) (k - ts.length - 1) _ (a + ts.length) (c + 1) (drop_succ hd) hcl (by omega) hce (by omega) (by omega) with ih | ⟨ih1, ih2⟩
      · exact Or.inl ih
      · right
        refine ⟨fun us hus => ?_, by rw [ih2]; rfl⟩
        rcases List.mem_cons.1 hus with rfl | hus
        · exact h1
        · exact ih1 us hus
theorem Complement_f (L : List (List S42)) (hL : L.length ≤ 1000) (hl : lens L ≤ 10) (k : Nat) (hk : tot L + 100000 < k) : spec_Complement.f k L = some ([], false) ∨ ((∀ ts ∈ L, ∀ x ∈ ts, hasO x = true) ∧ spec_Complement.f k L = some (compF [[]] L, true)) :=
  comp_l0 L hL L 0 k [[]] 0 0 rfl (by simp) (by omega) (by simp) (by omega) hk
theorem siGood1 (L : List (List S42)) (hL : fits11 L = true) (k : Nat) (hk : tot L + 4294967420 < k) : ∃ b, laws_siGood.f (k + 2) [L] = some b ∧ (b = true → (∀ x ∈ L, x.length ≠ 0 ∧ ∀ t ∈ x, GT t) ∧ lens L ≤ 10 ∧ 0 < lens L) := by
  obtain ⟨b, hb, hB⟩ := GoodTerms_f 10 (by omega) L hL (k + 1) (by omega)
  have hb' : spec_GoodTerms.f (k + 1) L 10 = some b := hb
  obtain ⟨b2, hb2, _⟩ := scGood_f L hL (k + 1) (by omega)
  have hr : rd_L6 [L] 0 = L := rfl
  unfold laws_siGood.f
  rw [laws_siGood.l0]
  simp only [List.length_cons, List.length_nil]
  rw [if_pos (by omega), if_pos (by omega), if_pos (by omega), hr, hb']
  simp only [Option.bind_some]
  cases b with
  | false => exact ⟨false, rfl, fun h => by cases h⟩
  | true =>
    rw [if_pos rfl, hb2]
    simp only [Option.bind_some]
    cases b2 with
    | false => exact ⟨false, rfl, fun h => by cases h⟩
    | true =>
      rw [if_pos rfl, show wrap64 (0 + 1) = 1 from (IntWalk.wrap64_in _ (by omega)).trans rfl, laws_siGood.l0, if_neg (by omega)]
      exact ⟨true, rfl, fun _ => hB rfl⟩
theorem nil_toList : (⟨#[]⟩ : ByteArray).toList = [] := by rw [ByteArray.toList_eq]
theorem nil_empty : (⟨#[]⟩ : ByteArray).toList.isEmpty = true := by rw [nil_toList]; rfl
theorem openB_nil (o : Bool) : openB o (⟨#[]⟩ : ByteArray) = true := by unfold openB; rw [nil_empty, Bool.or_true]
def sN (M m t : Int) (x : S42) : Bool := sayT M m t ⟨#[]⟩ false x
theorem sayT_nil (M m t : Int) (o : Bool) (x : S42) : sayT M m t ⟨#[]⟩ o x = sN M m t x := by
  unfold sN sayT
  rw [openB_nil, openB_nil]
theorem holds_nil (M m t : Int) (l : List (List S42)) : termsHold M m t ⟨#[]⟩ false l = holdsS (sN M m t) l := by
  unfold termsHold holdsS listHolds
  congr 1
  funext x
  congr 1
  funext y
  exact sayT_nil M m t _ y
theorem gu_nil : GoodU (⟨#[]⟩ : ByteArray) := Or.inl nil_toList
theorem rng_nil (M m t : Int) (M' m' t' : Int) (u' : ByteArray) (h' : GoodU u') : cmpVer M m t ⟨#[]⟩ M' m' t' u' = -1 ∨ cmpVer M m t ⟨#[]⟩ M' m' t' u' = 0 ∨ cmpVer M m t ⟨#[]⟩ M' m' t' u' = 1 := by
  unfold cmpVer
  split
  · split
    · split
      · exact preOrd.rng _ _ gu_nil h'
      · exact segOrd.rng _ _ trivial trivial
    · exact segOrd.rng _ _ trivial trivial
  · exact segOrd.rng _ _ trivial trivial
theorem u64_pos {n : Int} (h : (Lit.int .u64 n).wf = true) : 0 ≤ n := by
  unfold Lit.wf at h
  simp only [Bool.and_eq_true, decide_eq_true_eq] at h
  exact h.1
theorem seg_nn {a : Int} (h : 0 ≤ a) : seg a 0 ≥ 0 := by unfold seg; split <;> (try split) <;> omega
theorem low_ge (M m t : Int) (pm : 0 ≤ m) (pt : 0 ≤ t) (x : S42) (g0 : x.f1 ≠ 0) (g1 : 0 ≤ x.f1 ∧ x.f1 ≤ 3) (t3 : x.f1 < 3 → x.f4 = 0 ∧ x.f5.toList = []) (t2 : x.f1 < 2 → x.f3 = 0) (h3 : x.f1 ≠ 3) (hz : cnumI M m t x.f2 x.f3 x.f4 x.f1 = 0) : cmpVer M m t ⟨#[]⟩ x.f2 x.f3 x.f4 x.f5 ≥ 0 := by
  obtain ⟨h4, h5⟩ := t3 (by omega)
  have hp : preCmp (⟨#[]⟩ : ByteArray) x.f5 = 0 := by unfold preCmp; rw [if_pos ⟨nil_toList, h5⟩]
  unfold cmpVer
  rcases (show x.f1 = 1 ∨ x.f1 = 2 by omega) with h | h
  · rw [h, num_1] at hz
    rw [if_pos hz, t2 (by omega), h4, hp]
    have := seg_nn pm
    have := seg_nn pt
    split
    · split <;> omega
    · omega
  · rw [h, num2_0] at hz
    obtain ⟨e1, e2⟩ := hz
    rw [if_pos ((seg0 _ _).2 e1), if_pos ((seg0 _ _).2 e2), h4, hp]
    have := seg_nn pt
    split <;> omega
theorem sN_opp (M m t : Int) (p1 : 0 ≤ M) (p2 : 0 ≤ m) (p3 : 0 ≤ t) (x : S42) (hx : GT x) (hw : wf42 x) (hO : hasO x = true) : sN M m t (opp x) = !sN M m t x := by
  obtain ⟨h0, h3, o1, o2, g1, g2, t3, t2, t1, gx⟩ := hx
  unfold hasO at hO
  simp only [Bool.and_eq_true, decide_eq_true_eq] at hO
  obtain ⟨hop, hg0⟩ := hO
  have q : 0 ≤ opq x.f0 ∧ opq x.f0 < 6 := by unfold opq; split <;> (try split) <;> (try split) <;> (try split) <;> (try split) <;> omega
  unfold sN sayT
  rw [openB_nil, Bool.true_and, Bool.true_and]
  show saysB (opq x.f0) (cmpVer M m t ⟨#[]⟩ x.f2 x.f3 x.f4 x.f5) (MA.cmpPre ⟨#[]⟩ x.f5) M m t _ x.f2 x.f3 x.f4 x.f5.toList.isEmpty (decide (x.f1 < 3)) (x.f1 == 1) (x.f1 == 2) = _
  rw [says_means (opq x.f0) x.f1 _ _ M m t x.f2 x.f3 x.f4 _ _ (rng_nil M m t x.f2 x.f3 x.f4 x.f5 gx) p1 p2 p3 (u64_pos hw.2.2.1) (u64_pos hw.2.2.2.1) (u64_pos hw.2.2.2.2.1) (fun e => absurd e hg0) (fun _ e => by omega) ⟨q.1, by omega⟩ ⟨g1, g2⟩ (fun hg => ⟨(t3 hg).1, by rw [(t3 hg).2]; rfl⟩) t2 t1 (fun _ _ => nil_empty),
    says_means x.f0 x.f1 _ _ M m t x.f2 x.f3 x.f4 _ _ (rng_nil M m t x.f2 x.f3 x.f4 x.f5 gx) p1 p2 p3 (u64_pos hw.2.2.1) (u64_pos hw.2.2.2.1) (u64_pos hw.2.2.2.2.1) h0 h3 ⟨o1, o2⟩ ⟨g1, g2⟩ (fun hg => ⟨(t3 hg).1, by rw [(t3 hg).2]; rfl⟩) t2 t1 (fun _ _ => nil_empty)]
  exact means_opp x.f0 x.f1 _ M m t x.f2 x.f3 x.f4 hop (fun h3' hz => low_ge M m t p2 p3 x hg0 ⟨g1, g2⟩ t3 t2 h3' hz)
theorem comp_holds (L : List (List S42)) (hG : ∀ x ∈ L, x.length ≠ 0 ∧ ∀ t ∈ x, GT t) (hW : ∀ x ∈ L, ∀ t ∈ x, wf42 t) (hO : ∀ ts ∈ L, ∀ x ∈ ts, hasO x = true) (M m t : Int) (p1 : 0 ≤ M) (p2 : 0 ≤ m) (p3 : 0 ≤ t) :
    termsHold M m t ⟨#[]⟩ false (compF [[]] L) = !termsHold M m t ⟨#[]⟩ false L := by
  rw [holds_nil, holds_nil, holds_comp (sN M m t) L [[]] (fun ts hts x hx => sN_opp M m t p1 p2 p3 x ((hG ts hts).2 x hx) (hW ts hts x hx) (hO ts hts x hx))]
  have : holdsS (sN M m t) [[]] = true := rfl
  rw [this, Bool.true_and]
theorem comp_ask (L : List (List S42)) (hask : askT L) (hl : lens L ≤ 10) (hn : L.length ≤ 10) (hO : ∀ ts ∈ L, ∀ x ∈ ts, hasO x = true) : askT (compF [[]] L) := by
  have h1 := comp_len L [[]] 0 (by simp)
  have h2 : (2 : Nat) ^ (0 + lens L) ≤ 2 ^ 10 := Nat.pow_le_pow_right (by omega) (by omega)
  refine ⟨Nat.le_trans h1 (Nat.le_trans h2 (by decide)), fun z hz => ?_⟩
  obtain ⟨h3, h4⟩ := comp_mem L [[]] 0 (by simp) z hz
  refine ⟨by omega, fun y hy => ?_⟩
  rcases h4 y hy with ⟨x, hx, hyx⟩ | ⟨ts, hts, x, hx, rfl⟩
  · simp at hx
    subst hx
    cases hyx
  · have h5 := (hask.2 ts hts).2 x hx
    have h6 := hO ts hts x hx
    unfold hasO at h6
    simp only [Bool.and_eq_true, decide_eq_true_eq] at h6
    have q : 0 ≤ opq x.f0 ∧ opq x.f0 < 6 := by unfold opq; split <;> (try split) <;> (try split) <;> (try split) <;> (try split) <;> omega
    exact ⟨q.1, (by have := q.2; show opq x.f0 < 8; omega), h5.2.2.1, h5.2.2.2⟩
end Go.Proofs.YtalpehfjjidfhaaDoor.MP
