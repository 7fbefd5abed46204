/- The plain law of the terms' and the versions' comparison, for the print MP: no program in sight. -/
import Derived.Test.YtalpehfjjidfhaaDoorGramP
import Derived.Test.YtalpehfjjidfhaaDoorCmp
import Derived.Test.YtalpehfjjidfhaaDoorMPx4
import Derived.Test.YtalpehfjjidfhaaDoorMPx7
namespace Go.Proofs.YtalpehfjjidfhaaDoor.MP
open Go Go.RowKit Sv Hand
open Go.Proofs.YtalpehfjjidfhaaDoorW.PrintWords
open Go.Proofs.YtalpehfjjidfhaaDoor.MA (tl validPre smallPre digsL okPre okSmall bs_size)
set_option linter.unusedVariables false
set_option linter.unusedSimpArgs false
theorem good_u {s : S29} (h : goodS s = true) : s.f3.size ≤ 65536 ∧ s.f4.size ≤ 65536 ∧ GoodU s.f3 := by
 unfold goodS at h
 simp only [Bool.and_eq_true, decide_eq_true_eq] at h
 refine ⟨h.1.1, h.1.2, ?_⟩
 have h2 := h.2
 unfold goodV at h2
 simp only [Bool.and_eq_true, Bool.or_eq_true] at h2
 rcases h2.1 with h3 | h3
 ·
  left
  rw [ByteArray.toList_eq]
  exact List.isEmpty_iff.1 h3
 ·
  exact Or.inr h3
theorem fits_f (a b c : Int) (u v : ByteArray) : laws_zzFits14.f a b c u v = some (decide (u.size ≤ 2147483647 ∧ v.size ≤ 2147483647)) := by
 unfold laws_zzFits14.f
 by_cases h : (u.size : Int) > 2147483647
 ·
  rw [if_pos h, decide_eq_false (by omega)]
 ·
  rw [if_neg h]
  by_cases h2 : (v.size : Int) > 2147483647
  ·
   rw [if_pos h2, decide_eq_false (by omega)]
  ·
   rw [if_neg h2, decide_eq_true (by omega)]
theorem fits13_f (a b c d e : Int) (u : ByteArray) : laws_zzFits13.f a b c d e u = some (decide (u.size ≤ 2147483647)) := by
 unfold laws_zzFits13.f
 by_cases h : (u.size : Int) > 2147483647
 ·
  rw [if_pos h, decide_eq_false (by omega)]
 ·
  rw [if_neg h, decide_eq_true (by omega)]
theorem good1 (k : Nat) (hk : 200200 < k) (s : S29) : laws_svGood.f k [s] = some (goodS s) := by
 rw [svGood_f _ (by simp) _ hk]; simp
/-! The check of a term. -/
theorem gt_j3 (k : Nat) (x : Bool) (op g M m t : Int) (u : ByteArray) (hu : u.size ≤ 2147483647) (hk : 2 * u.size + 3 < k) : ∃ b, spec_GoodTerm.j3 (k + 1) x op g M m t u = some b ∧ (b = true → x = false ∧ GoodU u) := by
 rw [spec_GoodTerm.j3]
 cases x
 ·
  rw [if_neg (by decide)]
  by_cases h : u.toList = []
  ·
   rw [if_pos h]; exact ⟨true, rfl, fun _ => ⟨rfl, Or.inl h⟩⟩
  ·
   rw [if_neg h, ValidPre_f u (by omega) k hk, SmallPre_f u (by omega) k hk]
   cases h1 : validPre u
   ·
    exact ⟨false, rfl, fun e => by cases e⟩
   ·
    exact ⟨smallPre u, rfl, fun e => ⟨rfl, Or.inr ⟨h1, e⟩⟩⟩
 ·
  rw [if_pos rfl]; exact ⟨false, rfl, fun e => by cases e⟩
theorem gt_j2 (k : Nat) (x : Bool) (op g M m t : Int) (u : ByteArray) (hu : u.size ≤ 2147483647) (hk : 2 * u.size + 3 < k) : ∃ b, spec_GoodTerm.j2 (k + 2) x op g M m t u = some b ∧ (b = true → x = false ∧ (g < 3 → t = 0 ∧ u.toList = []) ∧ (g < 2 → m = 0) ∧ (g < 1 → M = 0) ∧ GoodU u) := by
 have H := fun x => gt_j3 k x op g M m t u hu hk
 obtain ⟨b0, h0, q0⟩ := H (M != 0)
 obtain ⟨b1, h1, q1⟩ := H false
 obtain ⟨b2, h2, q2⟩ := H true
 rw [spec_GoodTerm.j2]
 cases x
 ·
  rw [if_neg (by decide)]
  simp only [h0, h1, h2]
  (repeat' split) <;> refine ⟨_, rfl, fun e => ?_⟩ <;> first
   | exact absurd (q2 e).1 (by decide)
   | (have q := q0 e; simp only [bne_eq_false_iff_eq] at q; exact ⟨by trivial, fun _ => ⟨by omega, by assumption⟩, fun _ => by omega, fun _ => q.1, q.2⟩)
   | (have q := q0 e; simp only [bne_eq_false_iff_eq] at q; exact ⟨by trivial, fun _ => by omega, fun _ => by omega, fun _ => q.1, q.2⟩)
   | (have q := q1 e; exact ⟨by trivial, fun _ => ⟨by omega, by assumption⟩, fun _ => by omega, fun _ => by omega, q.2⟩)
   | (have q := q1 e; exact ⟨by trivial, fun _ => by omega, fun _ => by omega, fun _ => by omega, q.2⟩)
 ·
  rw [if_pos rfl]; exact ⟨false, rfl, fun e => by cases e⟩
theorem gt_j1 (k : Nat) (x : Bool) (op g M m t : Int) (u : ByteArray) (hu : u.size ≤ 2147483647) (hk : 2 * u.size + 3 < k) : ∃ b, spec_GoodTerm.j1 (k + 3) x op g M m t u = some b ∧ (b = true → x = false ∧ 0 ≤ op ∧ op < 8 ∧ 0 ≤ g ∧ g ≤ 3 ∧ (g < 3 → t = 0 ∧ u.toList = []) ∧ (g < 2 → m = 0) ∧ (g < 1 → M = 0) ∧ GoodU u) := by
 have H := fun x => gt_j2 k x op g M m t u hu hk
 obtain ⟨b0, h0, q0⟩ := H (decide (g > 3))
 obtain ⟨b2, h2, q2⟩ := H true
 rw [spec_GoodTerm.j1]
 cases x
 ·
  rw [if_neg (by decide)]
  simp only [h0, h2]
  (repeat' split) <;> refine ⟨_, rfl, fun e => ?_⟩ <;> first
   | exact absurd (q2 e).1 (by decide)
   | (have q := q0 e; have q1 := of_decide_eq_false q.1; exact ⟨by trivial, by omega, by omega, by omega, by omega, q.2⟩)
 ·
  rw [if_pos rfl]; exact ⟨false, rfl, fun e => by cases e⟩
theorem gt_j0 (k : Nat) (x : Bool) (op g M m t : Int) (u : ByteArray) (hu : u.size ≤ 2147483647) (hk : 2 * u.size + 3 < k) : ∃ b, spec_GoodTerm.j0 (k + 4) x op g M m t u = some b ∧ (b = true → (g = 0 → op = 0 ∨ op = 4 ∨ op = 6) ∧ (g = 3 → op = 6 → x = false) ∧ 0 ≤ op ∧ op < 8 ∧ 0 ≤ g ∧ g ≤ 3 ∧ (g < 3 → t = 0 ∧ u.toList = []) ∧ (g < 2 → m = 0) ∧ (g < 1 → M = 0) ∧ GoodU u) := by
 have H := fun x => gt_j1 k x op g M m t u hu hk
 obtain ⟨b0, h0, q0⟩ := H x
 obtain ⟨b1, h1, q1⟩ := H false
 obtain ⟨b2, h2, q2⟩ := H true
 rw [spec_GoodTerm.j0]
 simp only [h0, h1, h2]
 (repeat' split) <;> refine ⟨_, rfl, fun e => ?_⟩ <;> first
  | exact absurd (q2 e).1 (by decide)
  | (have q := q0 e; exact ⟨fun _ => by omega, fun _ _ => q.1, q.2⟩)
  | (have q := q1 e; exact ⟨fun _ => by omega, fun _ _ => by omega, q.2⟩)
theorem GoodTerm_f (k : Nat) (op g M m t : Int) (u : ByteArray) (hu : u.size ≤ 2147483647) (hk : 2 * u.size + 10 < k) : ∃ b, spec_GoodTerm.f k op g M m t u = some b ∧ (b = true → (g = 0 → op = 0 ∨ op = 4 ∨ op = 6) ∧ (g = 3 → op = 6 → ¬ (M = 0 ∧ m = 0 ∧ t = 0)) ∧ 0 ≤ op ∧ op < 8 ∧ 0 ≤ g ∧ g ≤ 3 ∧ (g < 3 → t = 0 ∧ u.toList = []) ∧ (g < 2 → m = 0) ∧ (g < 1 → M = 0) ∧ GoodU u) := by
 obtain ⟨j, rfl⟩ : ∃ j, k = j + 4 := ⟨k - 4, by omega⟩
 have H := fun x => gt_j0 j x op g M m t u hu (by omega)
 obtain ⟨b0, h0, q0⟩ := H (t == 0)
 obtain ⟨b1, h1, q1⟩ := H false
 unfold spec_GoodTerm.f
 simp only [h0, h1]
 (repeat' split) <;> refine ⟨_, rfl, fun e => ?_⟩ <;> first
  | (have q := q0 e; exact ⟨q.1, fun a b hh => by have := q.2.1 a b; simp [hh.2.2] at this, q.2.2⟩)
  | (have q := q1 e; exact ⟨q.1, fun a b hh => by omega, q.2.2⟩)
/-! The comparison. -/
theorem order_f (a b : Int) : spec_order.f a b = some (seg a b) := by
 unfold spec_order.f seg
 by_cases h : a < b
 ·
  rw [if_pos h, if_pos h]
 ·
  rw [if_neg h, if_neg h]
  by_cases h2 : b < a
  ·
   rw [if_pos (show a > b from h2), if_pos h2]
  ·
   rw [if_neg (show ¬ a > b from h2), if_neg h2]
theorem u64s {n : Nat} (h : n < 8796093022208) : IntKind.u64.wrap ((n : Int)) = (n : Int) := IntWalk.u64_in _ ⟨by omega, by omega⟩
theorem tl_eq {a b : ByteArray} : a.toList = b.toList ↔ tl a = tl b := by rw [ByteArray.toList_eq, ByteArray.toList_eq]
theorem ComparePart_f (a b : ByteArray) (ha : a.size < 1000000000000) (hb : b.size < 1000000000000) (k : Nat) (hk : a.size + b.size + 2 < k) : spec_ComparePart.f k a b = some (specPart (tl a) (tl b)) := by
 obtain ⟨j, rfl⟩ : ∃ j, k = j + 1 := ⟨k - 1, by omega⟩
 unfold spec_ComparePart.f specPart
 by_cases e : tl a = tl b
 ·
  rw [if_pos (tl_eq.2 e), if_pos e]
 ·
  rw [if_neg (fun h => e (tl_eq.1 h)), if_neg e, Digits_f a (by omega) _ (by omega), Digits_f b (by omega) _ (by omega)]
  have sa : (tl a).length = a.size := (size_data a).symm
  have sb : (tl b).length = b.size := (size_data b).symm
  simp only [Option.bind_some, spec_ComparePart.j0, Digits_f a (show a.size < 4611686018427387900 by omega) j (by omega), Digits_f b (show b.size < 4611686018427387900 by omega) j (by omega), order_f, u64s (show a.size < 8796093022208 by omega), u64s (show b.size < 8796093022208 by omega)]
  have less : ∀ p q : Bool, (if Op.bytesLess a.toList b.toList = true then some (-1) else some (1 : Int)) = some (if Op.bytesLess (tl a) (tl b) = true then -1 else 1) := by
   intro _ _
   rw [ByteArray.toList_eq, ByteArray.toList_eq]
   show (if Op.bytesLess (tl a) (tl b) = true then some (-1) else some (1 : Int)) = _
   split <;> rfl
  rw [less true true]
  cases da : digsL (tl a) <;> cases db : digsL (tl b)
  ·
   simp
  ·
   simp
  ·
   simp
  ·
   by_cases l : a.size = b.size
   ·
    simp [l, sa, sb]
   ·
    have l' : ((a.size : Int) != (b.size : Int)) = true := by simp; omega
    by_cases q : a.size < b.size
    ·
     simp [l', sa, sb, seg, q, l]
    ·
     have q2 : b.size < a.size := by omega
     simp [l', sa, sb, seg, q, q2, l]
theorem ComparePre_l0 (xs ys : List ByteArray) (N : Nat) (hN : N < 400000000000) (hx : ∀ x ∈ xs, x.size ≤ N) (hy : ∀ y ∈ ys, y.size ≤ N) (lx : xs.length < 4611686018427) (ly : ys.length < 4611686018427) : ∀ (rx ry : List ByteArray) (i k : Nat), xs.drop i = rx → ys.drop i = ry → (rx ≠ [] ∨ ry ≠ [] ∨ (i = xs.length ∧ i = ys.length)) → i ≤ xs.length → i ≤ ys.length → 2 * rx.length + 2 * N + 6 < k →
  spec_ComparePre.l0 k xs ys (i : Int) = some (specParts (rx.map tl) (ry.map tl))
 | [], ry, i, k, dx, dy, hne, h1, h2, hk => by
  obtain ⟨k, rfl⟩ : ∃ k', k = k' + 2 := ⟨k - 2, by simp at hk; omega⟩
  have a1 := drop_nil dx
  rw [spec_ComparePre.l0, if_neg (by omega), spec_ComparePre.j1, if_neg (by decide), order_f, u64s (by omega), u64s (by omega)]
  simp only [Option.bind_some]
  cases ry with
  | nil =>
   have a2 := drop_nil dy
   rw [show seg (xs.length : Int) (ys.length : Int) = 0 from seg_none.2 (by omega)]
   simp [specParts]
  | cons y r =>
   have a2 := drop_lt dy
   unfold seg
   rw [if_pos (by omega)]; simp [specParts]
 | x :: rx, [], i, k, dx, dy, hne, h1, h2, hk => by
  obtain ⟨k, rfl⟩ : ∃ k', k = k' + 2 := ⟨k - 2, by simp at hk; omega⟩
  have a1 := drop_lt dx
  have a2 := drop_nil dy
  rw [spec_ComparePre.l0, if_pos (by omega), spec_ComparePre.j1, if_neg (by simp; omega), order_f, u64s (by omega), u64s (by omega)]
  simp only [Option.bind_some]
  unfold seg
  rw [if_neg (by omega), if_pos (by omega)]; simp [specParts]
 | x :: rx, y :: ry, i, k, dx, dy, hne, h1, h2, hk => by
  obtain ⟨k, rfl⟩ : ∃ k', k = k' + 2 := ⟨k - 2, by simp at hk; omega⟩
  have a1 := drop_lt dx
  have a2 := drop_lt dy
  have cx : x.size ≤ N := hx x (by rw [← List.take_append_drop i xs, dx]; simp)
  have cy : y.size ≤ N := hy y (by rw [← List.take_append_drop i ys, dy]; simp)
  have hk' : 2 * rx.length + 2 * N + 6 < k := by simp at hk; omega
  have ih := ComparePre_l0 xs ys N hN hx hy lx ly rx ry (i + 1) k (drop_succ dx) (drop_succ dy) (by
   cases rx with
   | cons _ _ => left; simp
   | nil =>
    cases ry with
    | cons _ _ => right; left; simp
    | nil =>
     have b1 := drop_nil (drop_succ dx)
     have b2 := drop_nil (drop_succ dy)
     right; right; omega) (by omega) (by omega) hk'
  rw [spec_ComparePre.l0, if_pos (by omega), spec_ComparePre.j1, if_pos (by simp; omega), if_pos (by omega), if_pos (by omega), if_pos (by omega), rdOf_drop dx, rdOf_drop dy, ComparePart_f x y (by omega) (by omega) k (by omega), w1 i (by omega), ih]
  simp only [Option.bind_some, List.map_cons, specParts, andThen]
  split <;> rfl
theorem map_tl (l : List (List UInt8)) : (bs l).map tl = l := by
 have := bs_toList l
 exact this
theorem ComparePre_f (a b : ByteArray) (ha : a.size ≤ 2147483647) (hb : b.size ≤ 2147483647) (k : Nat) (hk : 20000000000 < k) : spec_ComparePre.f k a b = some (specPre a b) := by
 have sa : (tl a).length = a.size := (size_data a).symm
 have sb : (tl b).length = b.size := (size_data b).symm
 have l1 := splitD_length (tl a)
 have l2 := splitD_length (tl b)
 unfold spec_ComparePre.f specPre
 by_cases e : a = b
 ·
  rw [if_pos (by rw [e]), if_pos e]
 ·
  rw [if_neg (fun h => e (nil_ext h)), if_neg e]
  by_cases h1 : a.toList = []
  ·
   rw [if_pos h1, if_pos h1]
  ·
   rw [if_neg h1, if_neg h1]
   by_cases h2 : b.toList = []
   ·
    rw [if_pos h2, if_pos h2]
   ·
    rw [if_neg h2, if_neg h2, Identifiers_f a (by omega) k (by omega), Identifiers_f b (by omega) k (by omega)]
    simp only [Option.bind_some]
    have := ComparePre_l0 (bs (splitD (tl a))) (bs (splitD (tl b))) 2147483647 (by omega) (fun x hx => Nat.le_trans (bs_size (splitD_mem (tl a)) x hx) (by omega)) (fun x hx => Nat.le_trans (bs_size (splitD_mem (tl b)) x hx) (by omega)) (by rw [bs_length]; omega) (by rw [bs_length]; omega) (bs (splitD (tl a))) (bs (splitD (tl b))) 0 k rfl rfl (by
     left; intro h
     have := congrArg List.length h
     rw [bs_length] at this
     exact splitD_ne _ (List.length_eq_zero_iff.1 this)) (by omega) (by omega) (by rw [bs_length]; omega)
    rw [map_tl, map_tl] at this
    exact this
theorem Compare_f (M m t : Int) (u v : ByteArray) (M' m' t' : Int) (u' v' : ByteArray) (hu : u.size ≤ 2147483647) (hu' : u'.size ≤ 2147483647) (g : GoodU u) (g' : GoodU u') (k : Nat) (hk : 20000000000 < k) : spec_Compare.f k M m t u v M' m' t' u' v' = some (cmpVer M m t u M' m' t' u') := by
 unfold spec_Compare.f CompareNumbers.f cmpVer
 rw [ComparePre_f u u' hu hu' k hk, specPre_eq g g']
 simp only [Option.bind_some, cnumI]
 show (if cnum M m t M' m' t' 3 = 0 then some (preCmp u u') else some (cnum M m t M' m' t' 3)) = _
 simp only [cnum]
 by_cases h1 : seg M M' = 0
 ·
  by_cases h2 : seg m m' = 0
  ·
   by_cases h3 : seg t t' = 0
   ·
    simp [h1, h2, h3]
   ·
    simp [h1, h2, h3]
  ·
   simp [h1, h2]
 ·
  simp [h1]
end Go.Proofs.YtalpehfjjidfhaaDoor.MP
