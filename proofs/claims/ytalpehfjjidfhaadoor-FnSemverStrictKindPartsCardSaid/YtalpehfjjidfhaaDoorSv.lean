/- Plain law on the comparison of prereleases: no program in sight. -/
import Derived.Lib.ParseIntB
import Derived.WalkKit
namespace Go.Proofs.YtalpehfjjidfhaaDoor.Sv
open Go

/-- A comparison that is a total order on the things with P. -/
structure Ord {α : Type} (P : α → Prop) (f : α → α → Int) : Prop where
  rng : ∀ a b, P a → P b → f a b = -1 ∨ f a b = 0 ∨ f a b = 1
  anti : ∀ a b, P a → P b → f b a = - f a b
  eq : ∀ a b, P a → P b → (f a b = 0 ↔ a = b)
  trans : ∀ a b c, P a → P b → P c → f a b ≤ 0 → f b c ≤ 0 → f a c ≤ 0

theorem Ord.lt {α : Type} {P : α → Prop} {f : α → α → Int} (h : Ord P f) (a b c : α) (ha : P a) (hb : P b) (hc : P c) (h1 : f a b ≤ 0) (h2 : f b c ≤ 0) (h3 : f a b < 0 ∨ f b c < 0) : f a c < 0 := by
  have h4 := h.trans a b c ha hb hc h1 h2
  have : f a c ≠ 0 := by
    intro e
    have := (h.eq a c ha hc).1 e
    subst this
    have := h.anti a b ha hb
    omega
  omega

def natCmp (a b : Nat) : Int := if a < b then -1 else if b < a then 1 else 0
theorem natOrd : Ord (fun _ => True) natCmp where
  rng a b _ _ := by unfold natCmp; split <;> (try split) <;> simp
  anti a b _ _ := by unfold natCmp; split <;> split <;> (try split) <;> omega
  eq a b _ _ := by unfold natCmp; split <;> (try split) <;> constructor <;> intro <;> omega
  trans a b c _ _ _ h1 h2 := by
    unfold natCmp at *
    split at h1 <;> (try split at h1) <;> split at h2 <;> (try split at h2) <;> split <;> (try split) <;> omega

/-- First by f, then by g. -/
def andThen (x y : Int) : Int := if x = 0 then y else x

def pairCmp {α β : Type} (f : α → α → Int) (g : β → β → Int) (a b : α × β) : Int := andThen (f a.1 b.1) (g a.2 b.2)
theorem pairOrd {α β : Type} {P : α → Prop} {Q : β → Prop} {f : α → α → Int} {g : β → β → Int} (hf : Ord P f) (hg : Ord Q g) : Ord (fun x : α × β => P x.1 ∧ Q x.2) (pairCmp f g) where
  rng a b ha hb := by
    unfold pairCmp andThen
    have := hf.rng _ _ ha.1 hb.1
    have := hg.rng _ _ ha.2 hb.2
    split <;> assumption
  anti a b ha hb := by
    unfold pairCmp andThen
    have h1 := hf.anti _ _ ha.1 hb.1
    have h2 := hg.anti _ _ ha.2 hb.2
    split <;> split <;> omega
  eq a b ha hb := by
    unfold pairCmp andThen
    have h1 := hf.eq _ _ ha.1 hb.1
    have h2 := hg.eq _ _ ha.2 hb.2
    rcases a with ⟨a1, a2⟩
    rcases b with ⟨b1, b2⟩
    simp only [Prod.mk.injEq] at *
    split
    · rename_i h; simp [h1.1 h, h2]
    · rename_i h
      constructor
      · intro e; exact absurd e h
      · rintro ⟨e, _⟩; exact absurd (h1.2 e) h
  trans a b c ha hb hc h1 h2 := by
    unfold pairCmp andThen at *
    by_cases e1 : f a.1 b.1 = 0
    · rw [if_pos e1] at h1
      have e1' := (hf.eq _ _ ha.1 hb.1).1 e1
      rw [e1']
      by_cases e2 : f b.1 c.1 = 0
      · rw [if_pos e2] at h2 ⊢
        exact hg.trans _ _ _ ha.2 hb.2 hc.2 h1 h2
      · rw [if_neg e2] at h2 ⊢
        exact h2
    · rw [if_neg e1] at h1
      have l1 : f a.1 b.1 < 0 := by omega
      by_cases e2 : f b.1 c.1 = 0
      · have e2' := (hf.eq _ _ hb.1 hc.1).1 e2
        rw [← e2', if_neg e1]; exact h1
      · rw [if_neg e2] at h2
        have := hf.lt _ _ _ ha.1 hb.1 hc.1 h1 h2 (Or.inl l1)
        rw [if_neg (by omega)]; omega

/-! ### Bytes -/
theorem bless_irrefl (l : List UInt8) : Op.bytesLess l l = false := by
  induction l with
  | nil => rfl
  | cons a l ih => simp [Op.bytesLess, ih]
theorem bless_tri (a b : List UInt8) : a ≠ b → Op.bytesLess a b = !Op.bytesLess b a := by
  induction a generalizing b with
  | nil => cases b <;> simp [Op.bytesLess]
  | cons x a ih =>
    cases b with
    | nil => simp [Op.bytesLess]
    | cons y b =>
      intro h
      simp only [Op.bytesLess]
      by_cases hxy : x = y
      · subst hxy
        have := ih b (fun e => h (by rw [e]))
        simp [this]
      · have h1 : (x == y) = false := by simp [hxy]
        have h2 : (y == x) = false := beq_eq_false_iff_ne.2 fun e => hxy e.symm
        rw [h1, h2]
        simp only [Bool.false_and, Bool.or_false]
        have hne : x.toNat ≠ y.toNat := fun e => hxy (UInt8.toNat_inj.1 e)
        rw [Bool.eq_iff_iff]
        simp [UInt8.lt_iff_toNat_lt]
        omega
theorem bless_trans (a b c : List UInt8) : Op.bytesLess a b = true → Op.bytesLess b c = true → Op.bytesLess a c = true := by
  induction a generalizing b c with
  | nil => cases b <;> cases c <;> simp [Op.bytesLess]
  | cons x a ih =>
    cases b with
    | nil => simp [Op.bytesLess]
    | cons y b =>
      cases c with
      | nil => simp [Op.bytesLess]
      | cons z c =>
        simp only [Op.bytesLess, Bool.or_eq_true, Bool.and_eq_true, decide_eq_true_eq, beq_iff_eq, UInt8.lt_iff_toNat_lt]
        rintro (h1 | ⟨h1, h2⟩) (h3 | ⟨h3, h4⟩)
        · left; omega
        · left; subst h3; exact h1
        · left; subst h1; exact h3
        · right; exact ⟨h1.trans h3, ih b c h2 h4⟩

def bytesCmp (a b : List UInt8) : Int := if a = b then 0 else if Op.bytesLess a b then -1 else 1
theorem bytesOrd : Ord (fun _ => True) bytesCmp where
  rng a b _ _ := by unfold bytesCmp; split <;> (try split) <;> simp
  anti a b _ _ := by
    unfold bytesCmp
    by_cases h : a = b
    · simp [h]
    · have h' : ¬ b = a := fun e => h e.symm
      rw [if_neg h, if_neg h', bless_tri a b h]
      cases Op.bytesLess b a <;> simp
  eq a b _ _ := by
    unfold bytesCmp
    by_cases h : a = b
    · simp [h]
    · rw [if_neg h]; split <;> simp [h]
  trans a b c _ _ _ h1 h2 := by
    unfold bytesCmp at *
    by_cases e1 : a = b
    · subst e1; exact h2
    · rw [if_neg e1] at h1
      by_cases e2 : b = c
      · subst e2; rw [if_neg e1]; exact h1
      · rw [if_neg e2] at h2
        have l1 : Op.bytesLess a b = true := by
          by_cases h : Op.bytesLess a b = true
          · exact h
          · rw [if_neg h] at h1; omega
        have l2 : Op.bytesLess b c = true := by
          by_cases h : Op.bytesLess b c = true
          · exact h
          · rw [if_neg h] at h2; omega
        split
        · omega
        · rw [if_pos (bless_trans a b c l1 l2)]; omega

/-! ### Identifiers -/
def num? (l : List UInt8) : Option Nat := match Lib.parseUintB 64 l with | .ok u => some u | _ => none
/-- What comparePrePart says. -/
def cmpPart (s o : List UInt8) : Int :=
  if s = o then 0
  else if s = [] then -1
  else if o = [] then 1
  else match num? o, num? s with
    | none, none => if Op.bytesLess s o then -1 else 1
    | none, some _ => -1
    | some _, none => 1
    | some oi, some si => if oi < si then 1 else -1
/-- What comparePrerelease says of the parts that are left. -/
def cmpParts : List (List UInt8) → List (List UInt8) → Int
  | [], [] => 0
  | s :: ss, [] => andThen (cmpPart s []) (cmpParts ss [])
  | [], o :: os => andThen (cmpPart [] o) (cmpParts [] os)
  | s :: ss, o :: os => andThen (cmpPart s o) (cmpParts ss os)

/-- Identifiers that the comparison tells apart: numbers by their value. -/
def Id (l : List UInt8) : Prop := l ≠ []
def Tells (P : List UInt8 → Prop) : Prop := ∀ a b, P a → P b → ∀ u, num? a = some u → num? b = some u → a = b

theorem partOrd {P : List UInt8 → Prop} (hT : Tells P) : Ord (fun l => P l ∧ l ≠ []) cmpPart where
  rng a b _ _ := by
    unfold cmpPart
    split
    · simp
    split
    · simp
    split
    · simp
    split <;> (try split) <;> simp
  anti a b ha hb := by
    unfold cmpPart
    by_cases h : a = b
    · simp [h]
    have h' : ¬ b = a := fun e => h e.symm
    rw [if_neg h, if_neg h', if_neg ha.2, if_neg hb.2, if_neg ha.2, if_neg hb.2]
    cases ea : num? a <;> cases eb : num? b <;> simp only
    · rw [bless_tri a b h]
      cases Op.bytesLess b a <;> simp
    · omega
    · rename_i u v
      have : u ≠ v := fun e => h (hT a b ha.1 hb.1 u ea (by rw [eb, e]))
      split <;> split <;> omega
  eq a b ha hb := by
    unfold cmpPart
    by_cases h : a = b
    · simp [h]
    rw [if_neg h, if_neg ha.2, if_neg hb.2]
    simp only [h, iff_false]
    split <;> (try split) <;> omega
  trans a b c ha hb hc h1 h2 := by
    by_cases e1 : a = b
    · subst e1; exact h2
    by_cases e2 : b = c
    · subst e2; exact h1
    by_cases e3 : a = c
    · unfold cmpPart; rw [if_pos e3]; omega
    unfold cmpPart at *
    rw [if_neg e1, if_neg ha.2, if_neg hb.2] at h1
    rw [if_neg e2, if_neg hb.2, if_neg hc.2] at h2
    rw [if_neg e3, if_neg ha.2, if_neg hc.2]
    cases ea : num? a <;> cases eb : num? b <;> cases ec : num? c <;> simp only [ea, eb, ec] at h1 h2 ⊢ <;> try omega
    · have l1 : Op.bytesLess a b = true := by
        by_cases h : Op.bytesLess a b = true
        · exact h
        · rw [if_neg h] at h1; omega
      have l2 : Op.bytesLess b c = true := by
        by_cases h : Op.bytesLess b c = true
        · exact h
        · rw [if_neg h] at h2; omega
      rw [if_pos (bless_trans a b c l1 l2)]; omega

theorem cmpPart_self (s : List UInt8) : cmpPart s s = 0 := by simp [cmpPart]
theorem cmpPart_nil (s : List UInt8) (h : s ≠ []) : cmpPart s [] = 1 := by simp [cmpPart, h]
theorem nil_cmpPart (s : List UInt8) (h : s ≠ []) : cmpPart [] s = -1 := by
  have : ¬ [] = s := fun e => h e.symm
  simp [cmpPart, this]

theorem cmpParts_head (h p q : List (List UInt8)) : cmpParts (h ++ p) (h ++ q) = cmpParts p q := by
  induction h with
  | nil => rfl
  | cons x h ih => simp [cmpParts, cmpPart_self, andThen, ih]
theorem cmpParts_self (h : List (List UInt8)) : cmpParts h h = 0 := by
  have := cmpParts_head h [] []
  simpa [cmpParts] using this
theorem cmpParts_longer (h : List (List UInt8)) (x : List UInt8) (p : List (List UInt8)) (hx : x ≠ []) : cmpParts h (h ++ x :: p) = -1 ∧ cmpParts (h ++ x :: p) h = 1 := by
  have e1 := cmpParts_head h [] (x :: p)
  have e2 := cmpParts_head h (x :: p) []
  rw [List.append_nil] at e1 e2
  rw [e1, e2]
  simp [cmpParts, cmpPart_nil x hx, nil_cmpPart x hx, andThen]

theorem partsOrd {P : List UInt8 → Prop} (hT : Tells P) : Ord (fun l => ∀ x ∈ l, P x ∧ x ≠ []) cmpParts where
  rng a b ha hb := by
    induction a generalizing b with
    | nil =>
      cases b with
      | nil => simp [cmpParts]
      | cons y b => simp [cmpParts, nil_cmpPart y (hb y (by simp)).2, andThen]
    | cons x a ih =>
      cases b with
      | nil => simp [cmpParts, cmpPart_nil x (ha x (by simp)).2, andThen]
      | cons y b =>
        have h1 := (partOrd hT).rng x y (ha x (by simp)) (hb y (by simp))
        have h2 := ih b (fun z hz => ha z (by simp [hz])) (fun z hz => hb z (by simp [hz]))
        simp only [cmpParts, andThen]
        split <;> assumption
  anti a b ha hb := by
    induction a generalizing b with
    | nil =>
      cases b with
      | nil => simp [cmpParts]
      | cons y b => simp [cmpParts, nil_cmpPart y (hb y (by simp)).2, cmpPart_nil y (hb y (by simp)).2, andThen]
    | cons x a ih =>
      cases b with
      | nil => simp [cmpParts, cmpPart_nil x (ha x (by simp)).2, nil_cmpPart x (ha x (by simp)).2, andThen]
      | cons y b =>
        have h1 := (partOrd hT).anti x y (ha x (by simp)) (hb y (by simp))
        have h2 := ih b (fun z hz => ha z (by simp [hz])) (fun z hz => hb z (by simp [hz]))
        simp only [cmpParts, andThen]
        split <;> split <;> omega
  eq a b ha hb := by
    induction a generalizing b with
    | nil =>
      cases b with
      | nil => simp [cmpParts]
      | cons y b => simp [cmpParts, nil_cmpPart y (hb y (by simp)).2, andThen]
    | cons x a ih =>
      cases b with
      | nil => simp [cmpParts, cmpPart_nil x (ha x (by simp)).2, andThen]
      | cons y b =>
        have h1 := (partOrd hT).eq x y (ha x (by simp)) (hb y (by simp))
        have h2 := ih b (fun z hz => ha z (by simp [hz])) (fun z hz => hb z (by simp [hz]))
        simp only [cmpParts, andThen, List.cons.injEq]
        split
        · rename_i h; simp [h1.1 h, h2]
        · rename_i h
          constructor
          · intro e; exact absurd e h
          · rintro ⟨e, _⟩; exact absurd (h1.2 e) h
  trans a b c ha hb hc h1 h2 := by
    induction a generalizing b c with
    | nil =>
      cases c with
      | nil => simp [cmpParts]
      | cons z c => simp [cmpParts, nil_cmpPart z (hc z (by simp)).2, andThen]
    | cons x a ih =>
      cases b with
      | nil => simp [cmpParts, cmpPart_nil x (ha x (by simp)).2, andThen] at h1
      | cons y b =>
        cases c with
        | nil => simp [cmpParts, cmpPart_nil y (hb y (by simp)).2, andThen] at h2
        | cons z c =>
          have px := ha x (by simp)
          have py := hb y (by simp)
          have pz := hc z (by simp)
          have hp := partOrd hT
          simp only [cmpParts, andThen] at h1 h2 ⊢
          by_cases e1 : cmpPart x y = 0
          · rw [if_pos e1] at h1
            have e1' := (hp.eq x y px py).1 e1
            rw [e1']
            by_cases e2 : cmpPart y z = 0
            · rw [if_pos e2] at h2 ⊢
              exact ih b c (fun z hz => ha z (by simp [hz])) (fun z hz => hb z (by simp [hz])) (fun z hz => hc z (by simp [hz])) h1 h2
            · rw [if_neg e2] at h2 ⊢; exact h2
          · rw [if_neg e1] at h1
            by_cases e2 : cmpPart y z = 0
            · have e2' := (hp.eq y z py pz).1 e2
              rw [← e2', if_neg e1]; exact h1
            · rw [if_neg e2] at h2
              have := hp.lt x y z px py pz h1 h2 (Or.inl (by omega))
              rw [if_neg (by omega)]; omega


def dig (c : UInt8) : Bool := decide (48 ≤ c.toNat ∧ c.toNat ≤ 57)
def val (acc : Nat) (l : List UInt8) : Nat := l.foldl (fun a c => a * 10 + (c.toNat - 48)) acc
theorem val_nil (acc : Nat) : val acc [] = acc := rfl
theorem val_cons (acc : Nat) (c : UInt8) (r : List UInt8) : val acc (c :: r) = val (acc * 10 + (c.toNat - 48)) r := by unfold val; rw [List.foldl_cons]
theorem pm_nil (M acc : Nat) : Lib.parseUintM M acc [] = .ok acc := rfl
theorem pm_cons (M acc : Nat) (c : UInt8) (r : List UInt8) : Lib.parseUintM M acc (c :: r) =
    if 48 ≤ c.toNat ∧ c.toNat ≤ 57 then
      if 1844674407370955162 ≤ acc then .range
      else if M < acc * 10 + (c.toNat - 48) then .range
      else Lib.parseUintM M (acc * 10 + (c.toNat - 48)) r
    else .syntax := rfl
theorem val_snoc (l : List UInt8) (c : UInt8) (acc : Nat) : val acc (l ++ [c]) = val acc l * 10 + (c.toNat - 48) := by
  induction l generalizing acc with
  | nil => rfl
  | cons x l ih => rw [List.cons_append, val_cons, val_cons, ih]
theorem val_ge (l : List UInt8) (acc : Nat) : acc ≤ val acc l := by
  induction l generalizing acc with
  | nil => exact Nat.le_refl _
  | cons x l ih => have := ih (acc * 10 + (x.toNat - 48)); simp only [val_cons]; omega

theorem parseM_ok (l : List UInt8) (acc u : Nat) (h : Lib.parseUintM 18446744073709551615 acc l = .ok u) : l.all dig = true ∧ u = val acc l := by
  induction l generalizing acc with
  | nil => rw [pm_nil] at h; injection h with h; simp [val_nil, h]
  | cons x l ih =>
    rw [pm_cons] at h
    by_cases h1 : 48 ≤ x.toNat ∧ x.toNat ≤ 57
    · rw [if_pos h1] at h
      by_cases h2 : 1844674407370955162 ≤ acc
      · rw [if_pos h2] at h; cases h
      · rw [if_neg h2] at h
        by_cases h3 : 18446744073709551615 < acc * 10 + (x.toNat - 48)
        · rw [if_pos h3] at h; cases h
        · rw [if_neg h3] at h
          have := ih _ h
          simp [List.all_cons, this.1, val_cons, this.2, dig, h1]
    · rw [if_neg h1] at h; cases h
theorem parseM_of (l : List UInt8) (acc : Nat) (hd : l.all dig = true) (h : val acc l ≤ 18446744073709551615) : Lib.parseUintM 18446744073709551615 acc l = .ok (val acc l) := by
  induction l generalizing acc with
  | nil => rfl
  | cons x l ih =>
    simp only [List.all_cons, Bool.and_eq_true] at hd
    have h1 : 48 ≤ x.toNat ∧ x.toNat ≤ 57 := by simpa [dig] using hd.1
    have h2 := val_ge l (acc * 10 + (x.toNat - 48))
    simp only [val_cons] at h
    rw [pm_cons, if_pos h1, if_neg (by omega), if_neg (by omega)]
    exact ih _ hd.2 h
theorem pow64 : (2 : Nat) ^ 64 - 1 = 18446744073709551615 := by decide
theorem parse_ok {l : List UInt8} {u : Nat} (h : Lib.parseUintB 64 l = .ok u) : l ≠ [] ∧ l.all dig = true ∧ u = val 0 l := by
  unfold Lib.parseUintB at h
  by_cases e : l = []
  · rw [if_pos e] at h; cases h
  · rw [if_neg e, pow64] at h
    exact ⟨e, parseM_ok l 0 u h⟩
theorem parse_of {l : List UInt8} (e : l ≠ []) (hd : l.all dig = true) (h : val 0 l ≤ 18446744073709551615) : Lib.parseUintB 64 l = .ok (val 0 l) := by
  unfold Lib.parseUintB
  rw [if_neg e, pow64]
  exact parseM_of l 0 hd h
theorem parse_le {l : List UInt8} {u : Nat} (h : Lib.parseUintB 64 l = .ok u) : u ≤ 18446744073709551615 := by
  unfold Lib.parseUintB at h
  by_cases e : l = []
  · rw [if_pos e] at h; cases h
  · rw [if_neg e, pow64] at h
    clear e
    have : ∀ (l : List UInt8) (acc : Nat), acc ≤ 18446744073709551615 → Lib.parseUintM 18446744073709551615 acc l = .ok u → u ≤ 18446744073709551615 := by
      intro l
      induction l with
      | nil => intro acc ha h; rw [pm_nil] at h; injection h with h; omega
      | cons x l ih =>
        intro acc ha h
        rw [pm_cons] at h
        by_cases h1 : 48 ≤ x.toNat ∧ x.toNat ≤ 57
        · rw [if_pos h1] at h
          by_cases h2 : 1844674407370955162 ≤ acc
          · rw [if_pos h2] at h; cases h
          · rw [if_neg h2] at h
            by_cases h3 : 18446744073709551615 < acc * 10 + (x.toNat - 48)
            · rw [if_pos h3] at h; cases h
            · rw [if_neg h3] at h; exact ih _ (by omega) h
        · rw [if_neg h1] at h; cases h
    exact this l 0 (by omega) h

/-- A number in decimal. -/
def dec (n : Nat) : List UInt8 := if n < 10 then [UInt8.ofNat (48 + n)] else dec (n / 10) ++ [UInt8.ofNat (48 + n % 10)]
theorem dec_ne (n : Nat) : dec n ≠ [] := by unfold dec; split <;> simp
theorem toNat_dig (k : Nat) (h : k < 10) : (UInt8.ofNat (48 + k)).toNat = 48 + k := by
  rw [UInt8.toNat_ofNat']; omega
theorem dig_ofNat (k : Nat) (h : k < 10) : dig (UInt8.ofNat (48 + k)) = true := by
  have := toNat_dig k h
  simp only [dig, this, decide_eq_true_eq]; omega
theorem dec_dig (n : Nat) : (dec n).all dig = true := by
  induction n using Nat.strongRecOn with
  | ind n ih =>
    unfold dec
    split
    · rename_i h; simpa using dig_ofNat n h
    · have := ih (n / 10) (by omega)
      rw [List.all_append, this]
      simpa using dig_ofNat (n % 10) (by omega)
theorem dec_val (n : Nat) : val 0 (dec n) = n := by
  induction n using Nat.strongRecOn with
  | ind n ih =>
    unfold dec
    split
    · rename_i h; simp only [val_cons, val_nil]; rw [toNat_dig n h]; omega
    · rw [val_snoc, ih (n / 10) (by omega), toNat_dig _ (by omega)]; omega
/-- No zero ahead: one digit alone, or the first is none. -/
def plain (l : List UInt8) : Bool := decide (l.length ≤ 1) || decide (l.head? ≠ some 48)
theorem val_pos (l : List UInt8) (h : l ≠ []) (hd : l.all dig = true) (hp : l.head? ≠ some 48) : 1 ≤ val 0 l := by
  cases l with
  | nil => exact absurd rfl h
  | cons x l =>
    simp only [List.all_cons, Bool.and_eq_true] at hd
    have h1 : 48 ≤ x.toNat ∧ x.toNat ≤ 57 := by simpa [dig] using hd.1
    have h2 : x.toNat ≠ 48 := by
      intro e
      apply hp
      have : x = 48 := UInt8.toNat_inj.1 e
      simp [this]
    have := val_ge l (0 * 10 + (x.toNat - 48))
    simp only [val_cons]; omega
theorem dec_of (l : List UInt8) (h : l ≠ []) (hd : l.all dig = true) (hp : plain l = true) : dec (val 0 l) = l := by
  have main : ∀ (k : Nat) (l : List UInt8), l.length = k + 1 → l.all dig = true → plain l = true → dec (val 0 l) = l := by
    intro k
    induction k with
    | zero =>
      intro l hl hd _
      match l, hl with
      | [x], _ =>
        have h1 : 48 ≤ x.toNat ∧ x.toNat ≤ 57 := by simpa [dig] using hd
        have e : val 0 [x] = x.toNat - 48 := by simp [val_cons, val_nil]
        unfold dec
        rw [e, if_pos (by omega)]
        congr 1
        apply UInt8.toNat_inj.1
        rw [toNat_dig _ (by omega)]; omega
    | succ k ih =>
      intro l hl hd hp
      have hne : l ≠ [] := by intro e; simp [e] at hl
      have e : l = l.dropLast ++ [l.getLast hne] := (List.dropLast_concat_getLast hne).symm
      have hlen : l.dropLast.length = k + 1 := by simp [hl]
      have hne2 : l.dropLast ≠ [] := by intro e; simp [e] at hlen
      have hhead : l.dropLast.head? = l.head? := by
        rw [List.head?_dropLast, if_pos (by omega)]
      have hp' : l.head? ≠ some 48 := by
        have : ¬ l.length ≤ 1 := by omega
        simpa [plain, this] using hp
      rw [e, List.all_append, Bool.and_eq_true] at hd
      have hd2 : dig (l.getLast hne) = true := by simpa using hd.2
      have h1 : 48 ≤ (l.getLast hne).toNat ∧ (l.getLast hne).toNat ≤ 57 := by simpa [dig] using hd2
      have hv := val_pos l.dropLast hne2 hd.1 (by rw [hhead]; exact hp')
      have h2 := ih l.dropLast hlen hd.1 (by simp [plain, hhead, hp'])
      conv => lhs; rw [e, val_snoc]
      unfold dec
      rw [if_neg (by omega)]
      have e1 : (val 0 l.dropLast * 10 + ((l.getLast hne).toNat - 48)) / 10 = val 0 l.dropLast := by omega
      have e2 : (val 0 l.dropLast * 10 + ((l.getLast hne).toNat - 48)) % 10 = (l.getLast hne).toNat - 48 := by omega
      rw [e1, e2, h2]
      conv => rhs; rw [e]
      congr 2
      apply UInt8.toNat_inj.1
      rw [toNat_dig _ (by omega)]; omega
  obtain ⟨k, hk⟩ : ∃ k, l.length = k + 1 := ⟨l.length - 1, by
    have : l.length ≠ 0 := by simpa using h
    omega⟩
  exact main k l hk hd hp
theorem dec_plain (n : Nat) : plain (dec n) = true := by
  have main : ∀ n, 1 ≤ n → (dec n).head? ≠ some 48 := by
    intro n
    induction n using Nat.strongRecOn with
    | ind n ih =>
      intro hn
      unfold dec
      split
      · rename_i h
        simp only [List.head?_cons, ne_eq, Option.some.injEq]
        intro e
        have := toNat_dig n h
        rw [e] at this
        have : (48 : UInt8).toNat = 48 := rfl
        omega
      · have := ih (n / 10) (by omega) (by omega)
        cases e : dec (n / 10) with
        | nil => exact absurd e (dec_ne _)
        | cons x r => rw [e] at this; simpa using this
  by_cases h : n = 0
  · subst h; simp [dec, plain]
  · simp [plain, main n (by omega)]
theorem val_lt (l : List UInt8) (hd : l.all dig = true) (acc : Nat) : val acc l < (acc + 1) * 10 ^ l.length := by
  induction l generalizing acc with
  | nil => simp [val_nil]
  | cons x l ih =>
    simp only [List.all_cons, Bool.and_eq_true] at hd
    have h1 : 48 ≤ x.toNat ∧ x.toNat ≤ 57 := by simpa [dig] using hd.1
    have h2 := ih hd.2 (acc * 10 + (x.toNat - 48))
    simp only [val_cons, List.length_cons]
    refine Nat.lt_of_lt_of_le h2 ?_
    rw [Nat.pow_succ, Nat.mul_comm (10 ^ l.length) 10, ← Nat.mul_assoc]
    exact Nat.mul_le_mul_right _ (by omega)
theorem val_small (l : List UInt8) (hd : l.all dig = true) (hl : l.length ≤ 19) : val 0 l ≤ 18446744073709551615 := by
  have h1 := val_lt l hd 0
  have h2 : 10 ^ l.length ≤ 10 ^ 19 := Nat.pow_le_pow_right (by decide) hl
  have h3 : (10 : Nat) ^ 19 = 10000000000000000000 := by decide
  omega

end Go.Proofs.YtalpehfjjidfhaaDoor.Sv
