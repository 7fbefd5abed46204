/- The plain law of spec.ComparePart and spec.ComparePre: they say what the package's comparison says. -/
import Derived.Test.YtalpehfjjidfhaaDoorOrd
namespace Go.Proofs.YtalpehfjjidfhaaDoor.Sv
open Go Hand MA
set_option linter.unusedVariables false
theorem val_low (l : List UInt8) (acc : Nat) : acc * 10 ^ l.length ≤ val acc l := by
  induction l generalizing acc with
  | nil => simp [val_nil]
  | cons x l ih =>
    have h2 := ih (acc * 10 + (x.toNat - 48))
    simp only [val_cons, List.length_cons]
    refine Nat.le_trans ?_ h2
    rw [Nat.pow_succ, Nat.mul_comm (10 ^ l.length) 10, ← Nat.mul_assoc]
    exact Nat.mul_le_mul_right _ (by omega)
theorem bless_val (l : List UInt8) : ∀ (m : List UInt8) (acc : Nat), l.all dig = true → m.all dig = true → l.length = m.length → (Op.bytesLess l m = true ↔ val acc l < val acc m) := by
  induction l with
  | nil =>
    intro m acc hl hm h
    cases m with
    | nil => simp [Op.bytesLess]
    | cons d s => simp at h
  | cons c r ih =>
    intro m acc hl hm h
    cases m with
    | nil => simp at h
    | cons d s =>
      have h' : r.length = s.length := by simpa using h
      simp only [List.all_cons, Bool.and_eq_true] at hl hm
      have hc : 48 ≤ c.toNat ∧ c.toNat ≤ 57 := by simpa [dig] using hl.1
      have hd : 48 ≤ d.toNat ∧ d.toNat ≤ 57 := by simpa [dig] using hm.1
      simp only [Op.bytesLess, Bool.or_eq_true, Bool.and_eq_true, decide_eq_true_eq, beq_iff_eq, UInt8.lt_iff_toNat_lt, val_cons]
      by_cases e : c = d
      · subst e
        have := ih s (acc * 10 + (c.toNat - 48)) hl.2 hm.2 h'
        simp [this]
      · have hne : c.toNat ≠ d.toNat := fun e' => e (UInt8.toNat_inj.1 e')
        have a1 := val_lt r hl.2 (acc * 10 + (c.toNat - 48))
        have a2 := val_low r (acc * 10 + (c.toNat - 48))
        have b1 := val_lt s hm.2 (acc * 10 + (d.toNat - 48))
        have b2 := val_low s (acc * 10 + (d.toNat - 48))
        rw [h'] at a1 a2
        rcases Nat.lt_or_gt_of_ne hne with q | q
        · have q2 : (acc * 10 + (c.toNat - 48) + 1) * 10 ^ s.length ≤ (acc * 10 + (d.toNat - 48)) * 10 ^ s.length := Nat.mul_le_mul_right _ (by omega)
          exact ⟨fun _ => by omega, fun _ => Or.inl q⟩
        · have q2 : (acc * 10 + (d.toNat - 48) + 1) * 10 ^ s.length ≤ (acc * 10 + (c.toNat - 48)) * 10 ^ s.length := Nat.mul_le_mul_right _ (by omega)
          exact ⟨fun h3 => h3.elim (fun h4 => by omega) (fun h4 => absurd h4.1 e), fun h3 => by omega⟩
theorem len_val (l m : List UInt8) (hl : l.all dig = true) (hm : m.all dig = true) (hp : plain m = true) (h1 : l ≠ []) (h : l.length < m.length) : val 0 l < val 0 m := by
  cases m with
  | nil => simp at h
  | cons d s =>
    have l1 : 1 ≤ l.length := by
      cases l with
      | nil => exact absurd rfl h1
      | cons _ _ => simp
    have hd0 : d ≠ 48 := by
      simp only [plain, Bool.or_eq_true, decide_eq_true_eq] at hp
      rcases hp with hp | hp
      · simp at hp; subst hp; simp at h; exact absurd h h1
      · simpa using hp
    simp only [List.all_cons, Bool.and_eq_true] at hm
    have hd : 48 ≤ d.toNat ∧ d.toNat ≤ 57 := by simpa [dig] using hm.1
    have hd1 : d.toNat ≠ 48 := fun e => hd0 (UInt8.toNat_inj.1 (by rw [e]; rfl))
    have a1 := val_lt l hl 0
    have b2 := val_low s (0 * 10 + (d.toNat - 48))
    rw [val_cons]
    have q1 : 10 ^ l.length ≤ 10 ^ s.length := Nat.pow_le_pow_right (by decide) (by simp at h; omega)
    have q2 : 1 * 10 ^ s.length ≤ (0 * 10 + (d.toNat - 48)) * 10 ^ s.length := Nat.mul_le_mul_right _ (by omega)
    omega
theorem num_some {a : List UInt8} (hd : digsL a = true) (hs : okSmall a = true) : num? a = some (val 0 a) := by
  have hd' := hd
  simp only [digsL, Bool.and_eq_true, Bool.not_eq_true', List.isEmpty_eq_false_iff] at hd'
  have h19 : a.length ≤ 19 := by simpa [okSmall, hd] using hs
  unfold num?
  rw [parse_of hd'.2 hd'.1 (val_small a hd'.1 h19)]
theorem num_not {a : List UInt8} (hd : digsL a = false) : num? a = none := by
  cases e : num? a with
  | none => rfl
  | some u =>
    exfalso
    unfold num? at e
    split at e
    · rename_i v hv
      obtain ⟨h1, h2, _⟩ := parse_ok hv
      have : digsL a = true := by
        simp only [digsL, Bool.and_eq_true, Bool.not_eq_true', List.isEmpty_eq_false_iff]
        exact ⟨h2, h1⟩
      rw [this] at hd; cases hd
    · cases e
/-- What spec.ComparePart says. -/
def specPart (a b : List UInt8) : Int :=
  if a = b then 0 else if digsL a = true ∧ digsL b = true ∧ a.length ≠ b.length then (if a.length < b.length then -1 else 1)
  else if digsL a ≠ digsL b then (if digsL a = true then -1 else 1) else if Op.bytesLess a b = true then -1 else 1
theorem specPart_eq {a b : List UInt8} (ha : Ok a) (hb : Ok b) : specPart a b = cmpPart a b := by
  have na : a ≠ [] := ident_ne ha.1
  have nb : b ≠ [] := ident_ne hb.1
  unfold specPart cmpPart
  by_cases e : a = b
  · rw [if_pos e, if_pos e]
  rw [if_neg e, if_neg e, if_neg na, if_neg nb]
  have pl : ∀ {x : List UInt8}, Ok x → digsL x = true → plain x = true := by
    intro x hx hd
    have := hx.1
    unfold okPre at this
    rw [hd] at this
    simp only [Bool.not_true, Bool.false_or, Bool.and_eq_true] at this
    exact this.2
  cases da : digsL a <;> cases db : digsL b
  · rw [num_not da, num_not db]; simp
  · rw [num_not da, num_some db hb.2]; simp
  · rw [num_some da ha.2, num_not db]; simp
  · rw [num_some da ha.2, num_some db hb.2]
    show _ = (if val 0 b < val 0 a then (1 : Int) else -1)
    have da' := da
    have db' := db
    simp only [digsL, Bool.and_eq_true, Bool.not_eq_true', List.isEmpty_eq_false_iff] at da' db'
    by_cases hl : a.length = b.length
    · rw [if_neg (by simp [hl]), if_neg (by simp)]
      have h1 := bless_val a b 0 da'.1 db'.1 hl
      have h2 := bless_val b a 0 db'.1 da'.1 hl.symm
      have h3 := bless_tri a b e
      cases q : Op.bytesLess a b
      · rw [q] at h3 h1
        have : Op.bytesLess b a = true := by simpa using h3.symm
        rw [if_neg (by simp), if_pos (h2.1 this)]
      · have := h1.1 q
        rw [if_pos rfl, if_neg (by omega)]
    · rw [if_pos ⟨rfl, rfl, hl⟩]
      by_cases q : a.length < b.length
      · have := len_val a b da'.1 db'.1 (pl hb db) na q
        rw [if_pos q, if_neg (by omega)]
      · have := len_val b a db'.1 da'.1 (pl ha da) nb (by omega)
        rw [if_neg q, if_pos this]
/-- What spec.ComparePre says of the parts that are left. -/
def specParts : List (List UInt8) → List (List UInt8) → Int
  | [], [] => 0
  | _ :: _, [] => 1
  | [], _ :: _ => -1
  | s :: ss, o :: os => andThen (specPart s o) (specParts ss os)
theorem specParts_eq : ∀ (xs ys : List (List UInt8)), (∀ x ∈ xs, Ok x) → (∀ y ∈ ys, Ok y) → specParts xs ys = cmpParts xs ys
  | [], [], _, _ => by simp [specParts, cmpParts]
  | x :: xs, [], hx, _ => by
    rw [specParts, cmpParts, cmpPart_nil x (ident_ne (hx x (by simp)).1)]; rfl
  | [], y :: ys, _, hy => by
    rw [specParts, cmpParts, nil_cmpPart y (ident_ne (hy y (by simp)).1)]; rfl
  | x :: xs, y :: ys, hx, hy => by
    rw [specParts, cmpParts, specPart_eq (hx x (by simp)) (hy y (by simp)), specParts_eq xs ys (fun z hz => hx z (by simp [hz])) (fun z hz => hy z (by simp [hz]))]
/-- What spec.ComparePre says of two texts. -/
def specPre (a b : ByteArray) : Int := if a = b then 0 else if a.toList = [] then 1 else if b.toList = [] then -1 else specParts (splitD (tl a)) (splitD (tl b))
theorem specPre_eq {a b : ByteArray} (ha : GoodU a) (hb : GoodU b) : specPre a b = preCmp a b := by
  unfold specPre preCmp
  by_cases e : a = b
  · subst e
    rw [if_pos rfl]
    by_cases h : a.toList = []
    · rw [if_pos ⟨h, h⟩]
    · rw [if_neg (by simp [h]), if_neg h, if_neg h]
      unfold cmpPre
      exact (cmpParts_self _).symm
  · rw [if_neg e]
    by_cases h1 : a.toList = []
    · by_cases h2 : b.toList = []
      · exact absurd (nil_ext (h1.trans h2.symm)) e
      · rw [if_pos h1, if_neg (by simp [h2]), if_pos h1]
    · by_cases h2 : b.toList = []
      · rw [if_neg h1, if_pos h2, if_neg (by simp [h1]), if_neg h1, if_pos h2]
      · rw [if_neg h1, if_neg h2, if_neg (by simp [h1]), if_neg h1, if_neg h2]
        unfold cmpPre
        exact specParts_eq _ _ (fun x hx => (good_parts (ha.resolve_left h1) x hx).1) (fun x hx => (good_parts (hb.resolve_left h2) x hx).1)
end Go.Proofs.YtalpehfjjidfhaaDoor.Sv
