/- The plain laws of lists of terms, for the print MP: no program in sight. -/
import Derived.Test.YtalpehfjjidfhaaDoorSpecP
import Derived.Test.YtalpehfjjidfhaaDoorMPx5
import Derived.Test.YtalpehfjjidfhaaDoorMPx3
import Derived.Test.YtalpehfjjidfhaaDoorHandT5
namespace Go.Proofs.YtalpehfjjidfhaaDoor.MP
open Go Go.RowKit Sv Hand
open Go.Proofs.YtalpehfjjidfhaaDoorW.PrintWords
open Go.Proofs.YtalpehfjjidfhaaDoor.MA (tl validPre smallPre digsL okPre okSmall bs_size)
set_option linter.unusedVariables false
set_option linter.unusedSimpArgs false
/-- A term as its type says. -/
def GT (x : S42) : Prop := (x.f1 = 0 → x.f0 = 0 ∨ x.f0 = 4 ∨ x.f0 = 6) ∧ (x.f1 = 3 → x.f0 = 6 → ¬ (x.f2 = 0 ∧ x.f3 = 0 ∧ x.f4 = 0)) ∧ 0 ≤ x.f0 ∧ x.f0 < 8 ∧ 0 ≤ x.f1 ∧ x.f1 ≤ 3 ∧ (x.f1 < 3 → x.f4 = 0 ∧ x.f5.toList = []) ∧ (x.f1 < 2 → x.f3 = 0) ∧ (x.f1 < 1 → x.f2 = 0) ∧ GoodU x.f5
def short (x : S42) : Bool := decide (x.f5.size ≤ 2147483647)
def fits12 (xs : List S42) : Bool := decide (xs.length ≤ 2147483647) && xs.all short
def fits11 (l : List (List S42)) : Bool := decide (l.length ≤ 2147483647) && l.all fits12
theorem zz12_l0 (xs : List S42) (hl : xs.length < 8796093022208) : ∀ (rest : List S42) (i k : Nat), xs.drop i = rest → rest.length < k → laws_zzFits12.l0 k xs (xs.length : Int) (i : Int) = some (rest.all short)
 | [], i, k, hd, hk => by
  obtain ⟨k, rfl⟩ : ∃ k', k = k' + 1 := ⟨k - 1, by omega⟩
  have := drop_nil hd
  unfold laws_zzFits12.l0
  rw [if_neg (by omega)]; rfl
 | c :: r, i, k, hd, hk => by
  obtain ⟨k, rfl⟩ : ∃ k', k = k' + 1 := ⟨k - 1, by omega⟩
  have hlt := drop_lt hd
  have hk' : r.length < k := by simp at hk; omega
  have ih := zz12_l0 xs hl r (i + 1) k (drop_succ hd) hk'
  have hr : rd_T42 xs (i : Int) = c := rdOf_drop hd
  unfold laws_zzFits12.l0
  rw [if_pos (by omega), if_pos (by omega), if_pos (by omega), hr, fits13_f, w1 i (by omega), ih]
  simp only [Option.bind_some, List.all_cons]
  unfold short
  by_cases h : c.f5.size ≤ 2147483647
  ·
   rw [decide_eq_true h, if_pos rfl, Bool.true_and]
  ·
   rw [decide_eq_false h]; rfl
theorem zz12_f (xs : List S42) (k : Nat) (hk : xs.length < k) : laws_zzFits12.f k xs = some (fits12 xs) := by
 unfold laws_zzFits12.f fits12
 by_cases h : xs.length ≤ 2147483647
 ·
  rw [if_neg (by omega), decide_eq_true h, Bool.true_and]
  exact zz12_l0 xs (by omega) xs 0 k rfl hk
 ·
  rw [if_pos (by omega), decide_eq_false h, Bool.false_and]
/-- How many rounds lists of terms take. -/
def tot : List (List S42) → Nat
 | [] => 0
 | x :: r => x.length + 2 + tot r
theorem zz11_l0 (l : List (List S42)) (hl : l.length < 8796093022208) : ∀ (rest : List (List S42)) (i k : Nat), l.drop i = rest → tot rest < k → laws_zzFits11.l0 k l (l.length : Int) (i : Int) = some (rest.all fits12)
 | [], i, k, hd, hk => by
  obtain ⟨k, rfl⟩ : ∃ k', k = k' + 1 := ⟨k - 1, by omega⟩
  have := drop_nil hd
  unfold laws_zzFits11.l0
  rw [if_neg (by omega)]; rfl
 | c :: r, i, k, hd, hk => by
  obtain ⟨k, rfl⟩ : ∃ k', k = k' + 1 := ⟨k - 1, by omega⟩
  have hlt := drop_lt hd
  simp only [tot] at hk
  have ih := zz11_l0 l hl r (i + 1) k (drop_succ hd) (by omega)
  have hr : rd_L5 l (i : Int) = c := rdOf_drop hd
  unfold laws_zzFits11.l0
  rw [if_pos (by omega), if_pos (by omega), if_pos (by omega), hr, zz12_f c k (by omega), w1 i (by omega), ih]
  simp only [Option.bind_some, List.all_cons]
  cases fits12 c <;> rfl
theorem zz11_f (l : List (List S42)) (k : Nat) (hk : tot l < k) : laws_zzFits11.f k l = some (fits11 l) := by
 unfold laws_zzFits11.f fits11
 by_cases h : l.length ≤ 2147483647
 ·
  rw [if_neg (by omega), decide_eq_true h, Bool.true_and]
  exact zz11_l0 l (by omega) l 0 k rfl hk
 ·
  rw [if_pos (by omega), decide_eq_false h, Bool.false_and]
theorem GoodT (x : S42) (hs : short x = true) (k : Nat) (hk : 4294967400 < k) : ∃ b, spec_GoodTerm.f k x.f0 x.f1 x.f2 x.f3 x.f4 x.f5 = some b ∧ (b = true → GT x) := by
 unfold short at hs
 have hs := of_decide_eq_true hs
 exact GoodTerm_f k x.f0 x.f1 x.f2 x.f3 x.f4 x.f5 hs (by omega)
/-- What stands behind the inner loop of GoodTerms. -/
def gtEnd (most n : Int) (c : List S42) (L : List (List S42)) (i : Int) (k : Nat) : Option Bool :=
 if (c.length : Int) = 0 then (some false) else (if (wrap64 (n + (c.length : Int))) > most then (some false) else (spec_GoodTerms.l0 k most (wrap64 (n + (c.length : Int))) L (L.length : Int) (wrap64 (i + 1))))
theorem gt_l1 (most n : Int) (L : List (List S42)) (i : Int) (c : List S42) (hc : c.length < 8796093022208) : ∀ (rest : List S42) (j k : Nat), c.drop j = rest → (∀ x ∈ rest, short x = true) → rest.length + 4294967410 < k →
  spec_GoodTerms.l1 k most n c L (L.length : Int) i c (c.length : Int) (j : Int) = some false ∨ ((∀ x ∈ rest, GT x) ∧ spec_GoodTerms.l1 k most n c L (L.length : Int) i c (c.length : Int) (j : Int) = gtEnd most n c L i (k - rest.length - 1))
 | [], j, k, hd, hs, hk => by
  obtain ⟨k, rfl⟩ : ∃ k', k = k' + 1 := ⟨k - 1, by omega⟩
  have := drop_nil hd
  right
  refine ⟨fun x hx => absurd hx (by simp), ?_⟩
  unfold spec_GoodTerms.l1 gtEnd
  rw [if_neg (by omega)]
  rfl
 | a :: r, j, k, hd, hs, hk => by
  obtain ⟨k, rfl⟩ : ∃ k', k = k' + 1 := ⟨k - 1, by omega⟩
  have hlt := drop_lt hd
  have hk' : r.length + 4294967410 < k := by simp at hk; omega
  have ih := gt_l1 most n L i c hc r (j + 1) k (drop_succ hd) (fun x hx => hs x (List.mem_cons_of_mem _ hx)) hk'
  have hr : rd_T42 c (j : Int) = a := rdOf_drop hd
  obtain ⟨b, hb, hG⟩ := GoodT a (hs a List.mem_cons_self) k (by omega)
  have e : spec_GoodTerms.l1 (k + 1) most n c L (L.length : Int) i c (c.length : Int) (j : Int) = if b = true then spec_GoodTerms.l1 k most n c L (L.length : Int) i c (c.length : Int) ((j + 1 : Nat) : Int) else some false := by
   conv => lhs; unfold spec_GoodTerms.l1
   rw [if_pos (by omega), if_pos (by omega), if_pos (by omega), hr, hb, w1 j (by omega)]
   rfl
  rw [e]
  cases b with
  | false => left; rfl
  | true =>
   rw [if_pos rfl]
   rcases ih with ih | ⟨ih1, ih2⟩
   ·
    exact Or.inl ih
   ·
    right
    refine ⟨fun x hx => ?_, ?_⟩
    ·
     rcases List.mem_cons.1 hx with rfl | hx
     ·
      exact hG rfl
     ·
      exact ih1 x hx
    ·
     rw [ih2]
     congr 1
     simp only [List.length_cons]
     omega
def lens : List (List S42) → Nat
 | [] => 0
 | x :: r => x.length + lens r
theorem gt_l0 (most : Nat) (hmost : most < 1000) (L : List (List S42)) (hL : L.length < 8796093022208) : ∀ (rest : List (List S42)) (i k n : Nat), L.drop i = rest → (∀ x ∈ rest, fits12 x = true) → n ≤ most → tot rest + 4294967420 < k →
  ∃ b, spec_GoodTerms.l0 k (most : Int) (n : Int) L (L.length : Int) (i : Int) = some b ∧ (b = true → (∀ x ∈ rest, x.length ≠ 0 ∧ ∀ t ∈ x, GT t) ∧ n + lens rest ≤ most ∧ 0 < n + lens rest)
 | [], i, k, n, hd, hs, hn, hk => by
  obtain ⟨k, rfl⟩ : ∃ k', k = k' + 1 := ⟨k - 1, by omega⟩
  have := drop_nil hd
  have e : spec_GoodTerms.l0 (k + 1) (most : Int) (n : Int) L (L.length : Int) (i : Int) = some (decide ((n : Int) > 0)) := by
   unfold spec_GoodTerms.l0
   rw [if_neg (by omega)]
  refine ⟨_, e, fun hb => ?_⟩
  ·
   have hb := of_decide_eq_true hb
   exact ⟨fun x hx => absurd hx (by simp), by simp only [lens]; omega, by simp only [lens]; omega⟩
 | c :: r, i, k, n, hd, hs, hn, hk => by
  obtain ⟨k, rfl⟩ : ∃ k', k = k' + 1 := ⟨k - 1, by omega⟩
  have hlt := drop_lt hd
  simp only [tot] at hk
  have hf : decide (c.length ≤ 2147483647) = true ∧ c.all short = true := by
   have := hs c List.mem_cons_self
   unfold fits12 at this
   simpa [Bool.and_eq_true] using this
  have hcl := of_decide_eq_true hf.1
  have hr : rd_L5 L (i : Int) = c := rdOf_drop hd
  have e : spec_GoodTerms.l0 (k + 1) (most : Int) (n : Int) L (L.length : Int) (i : Int) = spec_GoodTerms.l1 k most n c L (L.length : Int) i c (c.length : Int) ((0 : Nat) : Int) := by
   conv => lhs; unfold spec_GoodTerms.l0
   rw [if_pos (by omega), if_pos (by omega), if_pos (by omega), hr]
   rfl
  rw [e]
  rcases gt_l1 most n L i c (by omega) c 0 k rfl (fun x hx => List.all_eq_true.1 hf.2 x hx) (by omega) with h | ⟨hG, h⟩
  ·
   exact ⟨false, h, fun hb => by cases hb⟩
  ·
   rw [h]
   unfold gtEnd
   by_cases h0 : c.length = 0
   ·
    exact ⟨false, by rw [if_pos (by omega)], fun hb => by cases hb⟩
   ·
    rw [if_neg (by omega), IntWalk.wrap64_in _ (by omega)]
    by_cases h1 : (n : Int) + (c.length : Int) > most
    ·
     exact ⟨false, by rw [if_pos h1], fun hb => by cases hb⟩
    ·
     rw [if_neg h1, w1 i (by omega)]
     obtain ⟨b, hb, hB⟩ := gt_l0 most hmost L hL r (i + 1) (k - c.length - 1) (n + c.length) (drop_succ hd) (fun x hx => hs x (List.mem_cons_of_mem _ hx)) (by omega) (by omega)
     refine ⟨b, by rw [← hb]; congr 1, fun hbt => ?_⟩
     obtain ⟨q1, q2, q3⟩ := hB hbt
     refine ⟨fun x hx => ?_, by simp only [lens]; omega, by simp only [lens]; omega⟩
     rcases List.mem_cons.1 hx with rfl | hx
     ·
      exact ⟨h0, hG⟩
     ·
      exact q1 x hx
theorem GoodTerms_f (most : Nat) (hmost : most < 1000) (L : List (List S42)) (hL : fits11 L = true) (k : Nat) (hk : tot L + 4294967420 < k) :
  ∃ b, spec_GoodTerms.f k L (most : Int) = some b ∧ (b = true → (∀ x ∈ L, x.length ≠ 0 ∧ ∀ t ∈ x, GT t) ∧ lens L ≤ most ∧ 0 < lens L) := by
 unfold fits11 at hL
 simp only [Bool.and_eq_true, decide_eq_true_eq] at hL
 obtain ⟨b, hb, hB⟩ := gt_l0 most hmost L (by omega) L 0 k 0 rfl (fun x hx => List.all_eq_true.1 hL.2 x hx) (by omega) (by omega)
 exact ⟨b, hb, fun h => by have := hB h; simpa using this⟩
theorem sc_l1 (L : List (List S42)) (i : Int) (c : List S42) (hc : c.length < 8796093022208) : ∀ (rest : List S42) (j k : Nat), c.drop j = rest → rest.length < k →
  laws_scGood.l1 k L (L.length : Int) i c (c.length : Int) (j : Int) = some false ∨ laws_scGood.l1 k L (L.length : Int) i c (c.length : Int) (j : Int) = laws_scGood.l0 (k - rest.length - 1) L (L.length : Int) (wrap64 (i + 1))
 | [], j, k, hd, hk => by
  obtain ⟨k, rfl⟩ : ∃ k', k = k' + 1 := ⟨k - 1, by omega⟩
  have := drop_nil hd
  right
  unfold laws_scGood.l1
  rw [if_neg (by omega)]
  rfl
 | a :: r, j, k, hd, hk => by
  obtain ⟨k, rfl⟩ : ∃ k', k = k' + 1 := ⟨k - 1, by omega⟩
  have hlt := drop_lt hd
  have hk' : r.length < k := by simp at hk; omega
  have ih := sc_l1 L i c hc r (j + 1) k (drop_succ hd) hk'
  have hr : rd_T42 c (j : Int) = a := rdOf_drop hd
  have e : laws_scGood.l1 (k + 1) L (L.length : Int) i c (c.length : Int) (j : Int) = if ((a.f5).size : Int) > 64 then some false else laws_scGood.l1 k L (L.length : Int) i c (c.length : Int) ((j + 1 : Nat) : Int) := by
   conv => lhs; unfold laws_scGood.l1
   rw [if_pos (by omega), if_pos (by omega), if_pos (by omega), hr, w1 j (by omega)]
  rw [e]
  by_cases h : ((a.f5).size : Int) > 64
  ·
   left; rw [if_pos h]
  ·
   rw [if_neg h]
   rcases ih with ih | ih
   ·
    exact Or.inl ih
   ·
    right
    rw [ih]
    congr 1
    simp only [List.length_cons]
    omega
theorem sc_l0 (L : List (List S42)) (hL : L.length < 8796093022208) : ∀ (rest : List (List S42)) (i k : Nat), L.drop i = rest → (∀ x ∈ rest, x.length < 8796093022208) → tot rest < k → ∃ b, laws_scGood.l0 k L (L.length : Int) (i : Int) = some b
 | [], i, k, hd, hs, hk => by
  obtain ⟨k, rfl⟩ : ∃ k', k = k' + 1 := ⟨k - 1, by omega⟩
  have := drop_nil hd
  refine ⟨true, ?_⟩
  unfold laws_scGood.l0
  rw [if_neg (by omega)]
 | c :: r, i, k, hd, hs, hk => by
  obtain ⟨k, rfl⟩ : ∃ k', k = k' + 1 := ⟨k - 1, by omega⟩
  have hlt := drop_lt hd
  simp only [tot] at hk
  have hr : rd_L5 L (i : Int) = c := rdOf_drop hd
  have e : laws_scGood.l0 (k + 1) L (L.length : Int) (i : Int) = laws_scGood.l1 k L (L.length : Int) i c (c.length : Int) ((0 : Nat) : Int) := by
   conv => lhs; unfold laws_scGood.l0
   rw [if_pos (by omega), if_pos (by omega), if_pos (by omega), hr]
   rfl
  rw [e]
  rcases sc_l1 L i c (hs c List.mem_cons_self) c 0 k rfl (by omega) with h | h
  ·
   exact ⟨false, h⟩
  ·
   rw [h, w1 i (by omega)]
   obtain ⟨b, hb⟩ := sc_l0 L hL r (i + 1) (k - c.length - 1) (drop_succ hd) (fun x hx => hs x (List.mem_cons_of_mem _ hx)) (by omega)
   exact ⟨b, hb⟩
theorem fits_len {L : List (List S42)} (hL : fits11 L = true) : L.length ≤ 2147483647 ∧ ∀ x ∈ L, x.length ≤ 2147483647 ∧ ∀ t ∈ x, t.f5.size ≤ 2147483647 := by
 unfold fits11 at hL
 simp only [Bool.and_eq_true, decide_eq_true_eq] at hL
 refine ⟨hL.1, fun x hx => ?_⟩
 have h := List.all_eq_true.1 hL.2 x hx
 unfold fits12 at h
 simp only [Bool.and_eq_true, decide_eq_true_eq] at h
 refine ⟨h.1, fun t ht => ?_⟩
 have h2 := List.all_eq_true.1 h.2 t ht
 unfold short at h2
 exact of_decide_eq_true h2
theorem scGood_f (L : List (List S42)) (hL : fits11 L = true) (k : Nat) (hk : tot L + 4294967420 < k) :
  ∃ b, laws_scGood.f k L = some b ∧ (b = true → (∀ x ∈ L, x.length ≠ 0 ∧ ∀ t ∈ x, GT t) ∧ lens L ≤ 24 ∧ 0 < lens L) := by
 obtain ⟨b, hb, hB⟩ := GoodTerms_f 24 (by omega) L hL k hk
 have hb' : spec_GoodTerms.f k L 24 = some b := hb
 unfold laws_scGood.f
 rw [hb']
 cases b with
 | false => exact ⟨false, rfl, fun h => by cases h⟩
 | true =>
  have hf := fits_len hL
  obtain ⟨c, hc⟩ := sc_l0 L (by omega) L 0 k rfl (fun x hx => by have := (hf.2 x hx).1; omega) (by omega)
  exact ⟨c, hc, fun _ => hB rfl⟩
theorem ask_of {L : List (List S42)} (hL : fits11 L = true) (hG : ∀ x ∈ L, x.length ≠ 0 ∧ ∀ t ∈ x, GT t) : askT L := by
 have hf := fits_len hL
 refine ⟨hf.1, fun x hx => ⟨(hf.2 x hx).1, fun t ht => ?_⟩⟩
 obtain ⟨_, _, q1, q2, q3, _⟩ := (hG x hx).2 t ht
 have := (hf.2 x hx).2 t ht
 exact ⟨q1, q2, q3, by omega⟩
end Go.Proofs.YtalpehfjjidfhaaDoor.MP
