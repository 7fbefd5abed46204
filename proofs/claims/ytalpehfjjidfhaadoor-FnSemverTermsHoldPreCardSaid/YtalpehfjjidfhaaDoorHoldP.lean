/- The plain law of FnSemverTermsHoldPre: no program in sight. -/
import Derived.Test.YtalpehfjjidfhaaDoorListsP
import Derived.Test.YtalpehfjjidfhaaDoorSays
import Derived.Test.YtalpehfjjidfhaaDoorMPx
import Derived.Test.YtalpehfjjidfhaaDoorTrods
namespace Go.Proofs.YtalpehfjjidfhaaDoor.MP
open Go Go.RowKit Sv Hand
open Go.Proofs.YtalpehfjjidfhaaDoorW.PrintWords
open Go.Proofs.YtalpehfjjidfhaaDoor.MA (tl validPre smallPre digsL okPre okSmall bs_size)
set_option linter.unusedVariables false
set_option linter.unusedSimpArgs false
theorem Spoken_f (k : Nat) (op g M m t : Int) (u : ByteArray) (a b c : Int) (d e : ByteArray) : ∃ r, spec_Spoken.f (k + 1) op g M m t u a b c d e = some r ∧ (r = true → op = 1 → g ≠ 3 → d.toList = []) := by
 unfold spec_Spoken.f
 simp only [spec_Spoken.j0, CompareNumbers.f, Option.bind_some]
 (repeat' split) <;> first
  | exact ⟨_, rfl, fun _ h1 h2 => by omega⟩
  | exact ⟨_, rfl, fun h _ _ => by simpa using h⟩
theorem as_l1 (L : List (List S42)) (i : Int) (a b c : Int) (d e : ByteArray) (cc : List S42) (hc : cc.length < 8796093022208) : ∀ (rest : List S42) (j k : Nat), cc.drop j = rest → rest.length + 1 < k →
  spec_AllSpoken.l1 k L (L.length : Int) i cc (cc.length : Int) (j : Int) a b c d e = some false ∨ ((∀ x ∈ rest, x.f0 = 1 → x.f1 ≠ 3 → d.toList = []) ∧ spec_AllSpoken.l1 k L (L.length : Int) i cc (cc.length : Int) (j : Int) a b c d e = spec_AllSpoken.l0 (k - rest.length - 1) L (L.length : Int) (wrap64 (i + 1)) a b c d e)
 | [], j, k, hd, hk => by
  obtain ⟨k, rfl⟩ : ∃ k', k = k' + 1 := ⟨k - 1, by omega⟩
  have := drop_nil hd
  right
  refine ⟨fun x hx => absurd hx (by simp), ?_⟩
  unfold spec_AllSpoken.l1
  rw [if_neg (by omega)]
  rfl
 | y :: r, j, k, hd, hk => by
  obtain ⟨k, rfl⟩ : ∃ k', k = k' + 1 := ⟨k - 1, by omega⟩
  have hlt := drop_lt hd
  have hk' : r.length + 1 < k := by simp at hk; omega
  have ih := as_l1 L i a b c d e cc hc r (j + 1) k (drop_succ hd) hk'
  have hr : rd_T42 cc (j : Int) = y := rdOf_drop hd
  obtain ⟨b', hb, hG⟩ := Spoken_f (k - 1) y.f0 y.f1 y.f2 y.f3 y.f4 y.f5 a b c d e
  rw [show k - 1 + 1 = k by omega] at hb
  have e1 : spec_AllSpoken.l1 (k + 1) L (L.length : Int) i cc (cc.length : Int) (j : Int) a b c d e = if b' = true then spec_AllSpoken.l1 k L (L.length : Int) i cc (cc.length : Int) ((j + 1 : Nat) : Int) a b c d e else some false := by
   conv => lhs; unfold spec_AllSpoken.l1
   rw [if_pos (by omega), if_pos (by omega), if_pos (by omega), hr, hb, w1 j (by omega)]
   rfl
  rw [e1]
  cases b' with
  | false => left; rfl
  | true =>
   rw [if_pos rfl]
   rcases ih with ih | ⟨ih1, ih2⟩
   ·
    exact Or.inl ih
   ·
    right
    refine ⟨fun x hx => ?_, ?_⟩
    ·
     rcases List.mem_cons.1 hx with rfl | hx
     ·
      exact hG rfl
     ·
      exact ih1 x hx
    ·
     rw [ih2]
     congr 1
     simp only [List.length_cons]
     omega
theorem as_l0 (L : List (List S42)) (hL : L.length < 8796093022208) (a b c : Int) (d e : ByteArray) : ∀ (rest : List (List S42)) (i k : Nat), L.drop i = rest → (∀ x ∈ rest, x.length < 8796093022208) → tot rest + 2 < k →
  ∃ r, spec_AllSpoken.l0 k L (L.length : Int) (i : Int) a b c d e = some r ∧ (r = true → ∀ x ∈ rest, ∀ t ∈ x, t.f0 = 1 → t.f1 ≠ 3 → d.toList = [])
 | [], i, k, hd, hs, hk => by
  obtain ⟨k, rfl⟩ : ∃ k', k = k' + 1 := ⟨k - 1, by omega⟩
  have := drop_nil hd
  refine ⟨true, ?_, fun _ x hx => absurd hx (by simp)⟩
  unfold spec_AllSpoken.l0
  rw [if_neg (by omega)]
 | cc :: r, i, k, hd, hs, hk => by
  obtain ⟨k, rfl⟩ : ∃ k', k = k' + 1 := ⟨k - 1, by omega⟩
  have hlt := drop_lt hd
  simp only [tot] at hk
  have hr : rd_L5 L (i : Int) = cc := rdOf_drop hd
  have e1 : spec_AllSpoken.l0 (k + 1) L (L.length : Int) (i : Int) a b c d e = spec_AllSpoken.l1 k L (L.length : Int) i cc (cc.length : Int) ((0 : Nat) : Int) a b c d e := by
   conv => lhs; unfold spec_AllSpoken.l0
   rw [if_pos (by omega), if_pos (by omega), if_pos (by omega), hr]
   rfl
  rw [e1]
  rcases as_l1 L i a b c d e cc (hs cc List.mem_cons_self) cc 0 k rfl (by omega) with h | ⟨h1, h⟩
  ·
   exact ⟨false, h, fun hb => by cases hb⟩
  ·
   rw [h, w1 i (by omega)]
   obtain ⟨b', hb, hB⟩ := as_l0 L hL a b c d e r (i + 1) (k - cc.length - 1) (drop_succ hd) (fun x hx => hs x (List.mem_cons_of_mem _ hx)) (by omega)
   refine ⟨b', hb, fun hbt x hx => ?_⟩
   rcases List.mem_cons.1 hx with rfl | hx
   ·
    exact h1
   ·
    exact hB hbt x hx
theorem hp_l0 (xs : List S42) (hl : xs.length < 8796093022208) : ∀ (rest : List S42) (i k : Nat), xs.drop i = rest → rest.length < k → spec_HasPre.l0 k xs (xs.length : Int) (i : Int) = some (hasP rest)
 | [], i, k, hd, hk => by
  obtain ⟨k, rfl⟩ : ∃ k', k = k' + 1 := ⟨k - 1, by omega⟩
  have := drop_nil hd
  unfold spec_HasPre.l0
  rw [if_neg (by omega)]; rfl
 | c :: r, i, k, hd, hk => by
  obtain ⟨k, rfl⟩ : ∃ k', k = k' + 1 := ⟨k - 1, by omega⟩
  have hlt := drop_lt hd
  have hk' : r.length < k := by simp at hk; omega
  have ih := hp_l0 xs hl r (i + 1) k (drop_succ hd) hk'
  have hr : rd_T42 xs (i : Int) = c := rdOf_drop hd
  unfold spec_HasPre.l0
  rw [if_pos (by omega), if_pos (by omega), if_pos (by omega), hr, w1 i (by omega), ih]
  unfold hasP
  rw [List.any_cons]
  by_cases h : c.f5.toList = []
  ·
   rw [if_pos h, h]; rfl
  ·
   rw [if_neg h, bne_iff_ne.2 h]; rfl
theorem LetsIn_f (xs : List S42) (hl : xs.length < 8796093022208) (a b c : Int) (d e : ByteArray) (pre : Bool) (k : Nat) (hk : xs.length < k) : spec_LetsIn.f k xs a b c d e pre = some (openB (pre || hasP xs) d) := by
 unfold spec_LetsIn.f openB
 by_cases h : d.toList = []
 ·
  rw [if_pos h, h]; simp
 ·
  rw [if_neg h]
  have h' : d.toList.isEmpty = false := by cases hh : d.toList.isEmpty with | true => exact absurd (List.isEmpty_iff.1 hh) h | false => rfl
  rw [h', Bool.or_false]
  cases pre with
  | true => rfl
  | false =>
   have : spec_HasPre.f k xs = some (hasP xs) := hp_l0 xs hl xs 0 k rfl hk
   rw [if_neg (by decide), this]
   rfl
theorem caret_f (k : Nat) (op g M m t : Int) (u : ByteArray) : spec_caretNumbers.f (k + 4) op g M m t u = some (caretN M m t g) := by
 have w1' : wrap64 (0 + 1) = 1 := (IntWalk.wrap64_in _ (by omega)).trans rfl
 have w2' : wrap64 (1 + 1) = 2 := (IntWalk.wrap64_in _ (by omega)).trans rfl
 have w3' : wrap64 (2 + 1) = 3 := (IntWalk.wrap64_in _ (by omega)).trans rfl
 unfold spec_caretNumbers.f caretN
 simp only [Option.bind_some, spec_caretNumbers.l0, List.length_cons, List.length_nil, w1', w2', w3']
 have r0 : rd [M, m, t] 0 = M := rfl
 have r1 : rd [M, m, t] 1 = m := rfl
 have r2 : rd [M, m, t] 2 = t := rfl
 simp only [r0, r1, r2]
 by_cases hM : M = 0
 ·
  by_cases hm : m = 0
  ·
   by_cases ht : t = 0
   ·
    simp [hM, hm, ht]
   ·
    simp [hM, hm, ht]
  ·
   simp [hM, hm]
 ·
  simp [hM]
theorem Compares_f (x : S42) (hx : GT x) (hs : x.f5.size ≤ 2147483647) (M m t : Int) (u v : ByteArray) (hu : u.size ≤ 2147483647) (gu : GoodU u) (k : Nat) (hk : 20000000010 < k) :
  spec_Compares.f k x.f0 x.f1 x.f2 x.f3 x.f4 x.f5 M m t u v = some (meansB x.f0 x.f1 (cmpVer M m t u x.f2 x.f3 x.f4 x.f5) M m t x.f2 x.f3 x.f4) := by
 obtain ⟨_, _, q1, q2, q3, q4, _, _, _, gx⟩ := hx
 obtain ⟨j, rfl⟩ : ∃ j, k = j + 1 := ⟨k - 1, by omega⟩
 obtain ⟨j2, rfl⟩ : ∃ j2, j = j2 + 4 := ⟨j - 4, by omega⟩
 have C1 := Compare_f M m t u v x.f2 x.f3 x.f4 x.f5 ⟨#[]⟩ hu hs gu gx (j2 + 4 + 1) (by omega)
 have C2 := Compare_f M m t u v x.f2 x.f3 x.f4 x.f5 ⟨#[]⟩ hu hs gu gx (j2 + 4) (by omega)
 have hmn : mn 2 x.f1 = min 2 x.f1 := by unfold mn; omega
 unfold spec_Compares.f spec_Least.f
 simp only [Option.bind_some, CompareNumbers.f]
 rw [C1]
 simp only [Option.bind_some, spec_Compares.j0, C2, CompareNumbers.f, spec_tildeNumbers.f, caret_f, hmn]
 generalize cmpVer M m t u x.f2 x.f3 x.f4 x.f5 = c
 have h7 : x.f0 = 0 ∨ x.f0 = 1 ∨ x.f0 = 2 ∨ x.f0 = 3 ∨ x.f0 = 4 ∨ x.f0 = 5 ∨ x.f0 = 6 ∨ x.f0 = 7 := by omega
 by_cases h3 : x.f1 = 3
 ·
  rcases h7 with h | h | h | h | h | h | h | h <;> simp [h, h3, meansB] <;> first | (split <;> simp_all; done) | ((by_cases hc : 0 ≤ c) <;> simp [hc] <;> first | rfl | (rw [Bool.eq_iff_iff]; simp)) | (rw [Bool.eq_iff_iff]; simp; done) | skip
 ·
  rcases h7 with h | h | h | h | h | h | h | h <;> simp [h, h3, meansB] <;> first | (split <;> simp_all; done) | ((by_cases hc : 0 ≤ c) <;> simp [hc] <;> first | rfl | (rw [Bool.eq_iff_iff]; simp)) | (rw [Bool.eq_iff_iff]; simp; done) | skip
/-- What a term says of a version by its meaning. -/
def meansT (M m t : Int) (u : ByteArray) (x : S42) : Bool := meansB x.f0 x.f1 (cmpVer M m t u x.f2 x.f3 x.f4 x.f5) M m t x.f2 x.f3 x.f4
theorem ah_l0 (xs : List S42) (hl : xs.length < 8796093022208) (M m t : Int) (u v : ByteArray) (hu : u.size ≤ 2147483647) (gu : GoodU u) : ∀ (rest : List S42) (i k : Nat), xs.drop i = rest → (∀ x ∈ rest, GT x ∧ x.f5.size ≤ 2147483647) → rest.length + 20000000020 < k →
  spec_AllHold.l0 k xs (xs.length : Int) (i : Int) M m t u v = some (rest.all (meansT M m t u))
 | [], i, k, hd, hs, hk => by
  obtain ⟨k, rfl⟩ : ∃ k', k = k' + 1 := ⟨k - 1, by omega⟩
  have := drop_nil hd
  unfold spec_AllHold.l0
  rw [if_neg (by omega)]; rfl
 | c :: r, i, k, hd, hs, hk => by
  obtain ⟨k, rfl⟩ : ∃ k', k = k' + 1 := ⟨k - 1, by omega⟩
  have hlt := drop_lt hd
  have hk' : r.length + 20000000020 < k := by simp at hk; omega
  have ih := ah_l0 xs hl M m t u v hu gu r (i + 1) k (drop_succ hd) (fun x hx => hs x (List.mem_cons_of_mem _ hx)) hk'
  have hr : rd_T42 xs (i : Int) = c := rdOf_drop hd
  obtain ⟨hG, hz⟩ := hs c List.mem_cons_self
  unfold spec_AllHold.l0
  rw [if_pos (by omega), if_pos (by omega), if_pos (by omega), hr, Compares_f c hG hz M m t u v hu gu k (by omega), w1 i (by omega), ih, List.all_cons]
  unfold meansT
  simp only [Option.bind_some]
  cases meansB c.f0 c.f1 (cmpVer M m t u c.f2 c.f3 c.f4 c.f5) M m t c.f2 c.f3 c.f4 <;> rfl
theorem st_l0 (L : List (List S42)) (hL : L.length < 8796093022208) (M m t : Int) (u v : ByteArray) (pre : Bool) (hu : u.size ≤ 2147483647) (gu : GoodU u) : ∀ (rest : List (List S42)) (i k : Nat), L.drop i = rest → (∀ x ∈ rest, x.length ≤ 2147483647 ∧ ∀ y ∈ x, GT y ∧ y.f5.size ≤ 2147483647) → tot rest + 20000000030 < k →
  spec_Satisfies.l0 k pre L (L.length : Int) (i : Int) M m t u v = some (rest.any (fun ts => openB (pre || hasP ts) u && ts.all (meansT M m t u)))
 | [], i, k, hd, hs, hk => by
  obtain ⟨k, rfl⟩ : ∃ k', k = k' + 1 := ⟨k - 1, by omega⟩
  have := drop_nil hd
  unfold spec_Satisfies.l0
  rw [if_neg (by omega)]; rfl
 | c :: r, i, k, hd, hs, hk => by
  obtain ⟨k, rfl⟩ : ∃ k', k = k' + 1 := ⟨k - 1, by omega⟩
  have hlt := drop_lt hd
  simp only [tot] at hk
  have ih := st_l0 L hL M m t u v pre hu gu r (i + 1) k (drop_succ hd) (fun x hx => hs x (List.mem_cons_of_mem _ hx)) (by omega)
  have hr : rd_L5 L (i : Int) = c := rdOf_drop hd
  obtain ⟨hcl, hcs⟩ := hs c List.mem_cons_self
  have hA : spec_AllHold.f k c M m t u v = some (c.all (meansT M m t u)) := ah_l0 c (by omega) M m t u v hu gu c 0 k rfl hcs (by omega)
  unfold spec_Satisfies.l0
  rw [if_pos (by omega), if_pos (by omega), if_pos (by omega), hr, LetsIn_f c (by omega) M m t u v pre k (by omega), w1 i (by omega), ih, List.any_cons]
  simp only [Option.bind_some, hA]
  cases openB (pre || hasP c) u <;> cases c.all (meansT M m t u) <;> rfl
theorem Satisfies_f (L : List (List S42)) (hL : fits11 L = true) (hG : ∀ x ∈ L, x.length ≠ 0 ∧ ∀ t ∈ x, GT t) (M m t : Int) (u v : ByteArray) (pre : Bool) (hu : u.size ≤ 2147483647) (gu : GoodU u) (k : Nat) (hk : tot L + 20000000030 < k) :
  spec_Satisfies.f k L M m t u v pre = some (L.any (fun ts => openB (pre || hasP ts) u && ts.all (meansT M m t u))) := by
 have hf := fits_len hL
 exact st_l0 L (by omega) M m t u v pre hu gu L 0 k rfl (fun x hx => ⟨(hf.2 x hx).1, fun y hy => ⟨(hG x hx).2 y hy, (hf.2 x hx).2 y hy⟩⟩) hk
theorem cmp_rng (M m t : Int) (u : ByteArray) (M' m' t' : Int) (u' : ByteArray) (h : GoodU u) (h' : GoodU u') : cmpVer M m t u M' m' t' u' = -1 ∨ cmpVer M m t u M' m' t' u' = 0 ∨ cmpVer M m t u M' m' t' u' = 1 := by
 unfold cmpVer
 split
 ·
  split
  ·
   split
   ·
    exact preOrd.rng _ _ h h'
   ·
    exact segOrd.rng _ _ trivial trivial
  ·
   exact segOrd.rng _ _ trivial trivial
 ·
  exact segOrd.rng _ _ trivial trivial
theorem u64_nn {n : Int} (h : (Lit.int .u64 n).wf = true) : 0 ≤ n := by
 unfold Lit.wf at h
 simp only [Bool.and_eq_true, decide_eq_true_eq] at h
 exact h.1
theorem says_eq (M m t : Int) (u : ByteArray) (p1 : 0 ≤ M) (p2 : 0 ≤ m) (p3 : 0 ≤ t) (gu : GoodU u) (x : S42) (hx : GT x) (hw : wf42 x) (hn : x.f0 = 1 → x.f1 ≠ 3 → u.toList = []) (o : Bool) : sayT M m t u o x = (openB o u && meansT M m t u x) := by
 obtain ⟨h0, h3, o1, o2, g1, g2, t3, t2, t1, gx⟩ := hx
 unfold sayT meansT
 rw [says_means x.f0 x.f1 _ _ M m t x.f2 x.f3 x.f4 _ _ (cmp_rng M m t u x.f2 x.f3 x.f4 x.f5 gu gx) p1 p2 p3 (u64_nn hw.2.2.1) (u64_nn hw.2.2.2.1) (u64_nn hw.2.2.2.2.1) h0 h3 ⟨o1, o2⟩ ⟨g1, g2⟩ (fun hg => ⟨(t3 hg).1, by rw [(t3 hg).2]; rfl⟩) t2 t1 (fun e1 e2 => by rw [hn e1 (by omega)]; rfl)]
theorem all_and {α : Type} (o : Bool) (f : α → Bool) (l : List α) (hl : l ≠ []) : l.all (fun x => o && f x) = (o && l.all f) := by
 cases o with
 | true => simp
 | false =>
  cases l with
  | nil => exact absurd rfl hl
  | cons x r => simp
theorem holds_eq (L : List (List S42)) (hG : ∀ x ∈ L, x.length ≠ 0 ∧ ∀ t ∈ x, GT t) (hW : ∀ x ∈ L, ∀ t ∈ x, wf42 t) (M m t : Int) (u : ByteArray) (p1 : 0 ≤ M) (p2 : 0 ≤ m) (p3 : 0 ≤ t) (gu : GoodU u) (hn : ∀ x ∈ L, ∀ y ∈ x, y.f0 = 1 → y.f1 ≠ 3 → u.toList = []) (pre : Bool) :
  termsHold M m t u pre L = L.any (fun ts => openB (pre || hasP ts) u && ts.all (meansT M m t u)) := by
 unfold termsHold
 have e : ∀ x ∈ L, listHolds M m t u pre x = (openB (pre || hasP x) u && x.all (meansT M m t u)) := by
  intro x hx
  have hne : x ≠ [] := fun h => (hG x hx).1 (by rw [h]; rfl)
  unfold listHolds
  rw [← all_and _ _ x hne]
  have : ∀ y ∈ x, sayT M m t u (pre || hasP x) y = (openB (pre || hasP x) u && meansT M m t u y) := fun y hy => says_eq M m t u p1 p2 p3 gu y ((hG x hx).2 y hy) (hW x hx y hy) (hn x hx y hy) _
  rw [Bool.eq_iff_iff, List.all_eq_true, List.all_eq_true]
  exact ⟨fun h y hy => by rw [← this y hy]; exact h y hy, fun h y hy => by rw [this y hy]; exact h y hy⟩
 rw [Bool.eq_iff_iff, List.any_eq_true, List.any_eq_true]
 exact ⟨fun ⟨x, hx, h⟩ => ⟨x, hx, by rw [← e x hx]; exact h⟩, fun ⟨x, hx, h⟩ => ⟨x, hx, by rw [e x hx]; exact h⟩⟩
theorem j1_true (k : Nat) (l : List (List S42)) (pre : Bool) (a b c : Int) (d e : ByteArray) : laws_FnSemverTermsHoldPre.j1 (k + 1) l pre true a b c d e = some true := by
 unfold laws_FnSemverTermsHoldPre.j1
 rfl
theorem termsHoldPre_at (L : List (List S42)) (hW : ∀ x ∈ L, ∀ t ∈ x, wf42 t) (M m t : Int) (u v : ByteArray) (p1 : 0 ≤ M) (p2 : 0 ≤ m) (p3 : 0 ≤ t) (pre : Bool) (kk : Nat) (hk : tot L + 20000000100 ≤ kk) : laws_FnSemverTermsHoldPre.f (kk + 1 + 1) L M m t u v pre = some true := by
 unfold laws_FnSemverTermsHoldPre.f
 rw [zz11_f L _ (by omega), fits_f]
 simp only [Option.bind_some]
 have J0 : ∀ x14 : Bool, (x14 = true ∨ (fits11 L = true ∧ u.size ≤ 2147483647 ∧ v.size ≤ 2147483647)) → laws_FnSemverTermsHoldPre.j0 (kk + 1 + 1) L pre x14 M m t u v = some true := by
  intro x14 hx
  rw [laws_FnSemverTermsHoldPre.j0]
  cases x14 with
  | true => rw [if_pos rfl]
  | false =>
   obtain ⟨hf, hu, hv⟩ : fits11 L = true ∧ u.size ≤ 2147483647 ∧ v.size ≤ 2147483647 := by rcases hx with h | h; cases h; exact h
   rw [if_neg (by decide)]
   by_cases hu0 : u.toList = []
   ·
    rw [if_pos hu0, j1_true]
   ·
    rw [if_neg hu0]
    obtain ⟨b, hb, hB⟩ := scGood_f L hf (kk + 1) (by omega)
    rw [hb]
    cases b with
    | false => exact j1_true kk L pre M m t u v
    | true =>
     obtain ⟨hG, _, _⟩ := hB rfl
     simp only [Option.bind_some, if_true]
     rw [good1 _ (by omega)]
     simp only [Option.bind_some]
     cases hg : goodS (⟨M, m, t, u, v⟩ : S29) with
     | false => exact j1_true kk L pre M m t u v
     | true =>
      obtain ⟨hu6, _, gu⟩ := good_u hg
      have gu : GoodU u := gu
      rw [if_pos rfl]
      have hfl := fits_len hf
      obtain ⟨s, hs, hS⟩ := as_l0 L (by omega) M m t u v L 0 (kk + 1) rfl (fun x hx => by have := (hfl.2 x hx).1; omega) (by omega)
      have hs' : spec_AllSpoken.f (kk + 1) L M m t u v = some s := hs
      rw [hs']
      simp only [Option.bind_some]
      cases s with
      | false => exact j1_true kk L pre M m t u v
      | true =>
       rw [laws_FnSemverTermsHoldPre.j1]
       rw [if_neg (by decide)]
       have hT : TermsHold.f L M m t u v pre = some (termsHold M m t u pre L) := by
        unfold TermsHold.f
        rw [if_pos ⟨ask_of hf hG, by omega⟩]
       rw [hT, Satisfies_f L hf hG M m t u v pre hu gu _ (by omega), holds_eq L hG hW M m t u p1 p2 p3 gu (hS rfl) pre]
       simp
 cases hf : fits11 L with
 | false => exact J0 true (Or.inl rfl)
 | true =>
  rw [if_pos rfl]
  refine J0 _ ?_
  by_cases h : u.size ≤ 2147483647 ∧ v.size ≤ 2147483647
  ·
   exact Or.inr ⟨hf, h.1, h.2⟩
  ·
   left; rw [decide_eq_false h]; rfl
theorem termsHoldPre_pure (L : List (List S42)) (hW : ∀ x ∈ L, ∀ t ∈ x, wf42 t) (M m t : Int) (u v : ByteArray) (p1 : 0 ≤ M) (p2 : 0 ≤ m) (p3 : 0 ≤ t) (pre : Bool) : ∃ k, laws_FnSemverTermsHoldPre.f k L M m t u v pre = some true :=
 ⟨_, termsHoldPre_at L hW M m t u v p1 p2 p3 pre (tot L + 20000000100) (Nat.le_refl _)⟩
theorem termsHoldPre_walk (A0 : Option Addr) (c0 : Nat) (L : List (List S42)) (M m t : Int) (u v : ByteArray) (pre : Bool) (w : World) (hG0 : Hand.Gl w) (hr0 : Kd.C (Kd.slice 42 k42) w A0 L.length L) (hc0 : L.length ≤ c0) (hW : ∀ x ∈ L, (∀ t ∈ x, wf42 t) ∧ x.length ≤ maxLen) (w0 : (Lit.int .u64 M).wf = true) (w1_ : (Lit.int .u64 m).wf = true) (w2 : (Lit.int .u64 t).wf = true) (w3 : u.size ≤ maxLen) (w4 : v.size ≤ maxLen) :
  Calls Tryd.prog 19 #[.slice A0 L.length c0, .agg #[.int .u64 M, .int .u64 m, .int .u64 t, .string u, .string v], .bool pre] w fun e w' => e = .returned (.bool true) ∧ Below w.heap.size w w' := by
 obtain ⟨k, hk⟩ := termsHoldPre_pure L (fun x hx => (hW x hx).1) M m t u v (u64_nn w0) (u64_nn w1_) (u64_nn w2) pre
 exact laws_FnSemverTermsHoldPre.calls k A0 c0 L M m t u v pre true w hr0 hc0 hG0 hk
end Go.Proofs.YtalpehfjjidfhaaDoor.MP
