/- What is proved: the plain law of FnSemverStrictKindParts: the kind of a text out of its parts. -/
import Derived.Test.YtalpehfjjidfhaaDoorKindQ
namespace Go.Proofs.YtalpehfjjidfhaaDoor.MY
open Go Go.RowKit Sv Hand MS Is
open Go.Proofs.YtalpehfjjidfhaaDoorW.PrintWords
open Go.Proofs.YtalpehfjjidfhaaDoor.MA (tl digsL)
set_option linter.unusedVariables false
set_option linter.unusedSimpArgs false
/-- The kind of an answer. -/
def rk : RR → Nat
  | .ok _ => 0
  | .er k => kn k
theorem strictK_rk (l : List UInt8) : strictK l = rk (strictR l) := rfl
/-- Whether a text is a small number. -/
def smallB (l : List UInt8) : Bool := (if digsL l = true then num? l else none).isSome
theorem nk_ne {k r : Int} (h : k ≠ 0) : nk k r = k := by unfold nk; rw [if_neg h]
theorem nk_0 (r : Int) : nk 0 r = r := by unfold nk; rw [if_pos rfl]
theorem sk_ne {k : Int} {b : Bool} (h : k ≠ 0) : sk k b = k := by unfold sk; rw [if_neg (fun x => h x.1)]
theorem sk_t (k : Int) : sk k true = k := by unfold sk; rw [if_neg (fun x => by cases x.2)]
theorem sk_f : sk 0 false = 10 := by unfold sk; rw [if_pos ⟨rfl, rfl⟩]
theorem all_ne {k q0 q1 q2 : Int} {o0 o1 o2 : Bool} (h : k ≠ 0) : sk (sk (sk (nk (nk (nk k q0) q1) q2) o0) o1) o2 = k := by
  rw [nk_ne h, nk_ne h, nk_ne h, sk_ne h, sk_ne h, sk_ne h]
theorem seg_num {l : List UInt8} (h : segK l = 0) : smallB l = decide ((numR l).2 = 0) := by
  have hd : l.all dig = true := by
    unfold segK at h
    split at h
    · assumption
    · cases h
  unfold smallB
  have hn := @numR_ok l
  cases e : num? l with
  | none =>
    have : ¬ (numR l).2 = 0 := by rw [hn, e]; rintro ⟨u, h1, _⟩; cases h1
    rw [decide_eq_false this]
    split <;> rfl
  | some u =>
    have h0 : (numR l).2 = 0 := by
      unfold numR
      unfold num? at e
      cases e2 : Lib.parseUintB 64 l <;> rw [e2] at e <;> first | rfl | cases e
    have hne : l ≠ [] := by
      unfold num? at e
      cases e2 : Lib.parseUintB 64 l <;> rw [e2] at e
      · exact (parse_ok e2).1
      all_goals cases e
    have hg : digsL l = true := by
      unfold MA.digsL
      rw [hd]
      cases l with
      | nil => exact absurd rfl hne
      | cons a b => rfl
    rw [if_pos hg, decide_eq_true h0]
    rfl
theorem kn_num (l : List UInt8) (h : (numR l).2 ≠ 0) : kn (numR l).2 = 10 := by
  rcases numR_vals l with e | e | e
  · exact absurd e h
  · rw [e]; rfl
  · rw [e]; rfl
theorem rk_segs (a b c u v : List UInt8) : (rk (segsR a b c u v) : Int) = sk (sk (sk (nk (nk (nk 0 (segK a)) (segK b)) (segK c)) (smallB a)) (smallB b)) (smallB c) := by
  have k3 : ∀ l, segK l ≠ 0 → kn (segK l) = segK l := fun l h => by
    rcases segK_vals l with e | e | e <;> rw [e] <;> rfl
  rw [nk_0]
  by_cases ha : segK a = 0
  · by_cases hb : segK b = 0
    · by_cases hc : segK c = 0
      · rw [segs_ok a b c u v ha hb hc, ha, hb, hc, seg_num ha, seg_num hb, seg_num hc]
        show (rk (numsR a b c u v) : Int) = sk (sk (sk (nk (nk 0 0) 0) _) _) _
        rw [nk_0, nk_0]
        unfold numsR
        by_cases na : (numR a).2 = 0
        · rw [if_neg (fun h => h na), decide_eq_true na, sk_t]
          by_cases nb : (numR b).2 = 0
          · rw [if_neg (fun h => h nb), decide_eq_true nb, sk_t]
            by_cases nc : (numR c).2 = 0
            · rw [if_neg (fun h => h nc), decide_eq_true nc, sk_t]; rfl
            · rw [if_pos nc, decide_eq_false nc, sk_f]; show ((kn _ : Nat) : Int) = 10; rw [kn_num c nc]; rfl
          · rw [if_pos nb, decide_eq_false nb, sk_f, sk_ne (k := 10) (by decide)]; show ((kn _ : Nat) : Int) = 10; rw [kn_num b nb]; rfl
        · rw [if_pos na, decide_eq_false na, sk_f, sk_ne (k := 10) (by decide), sk_ne (k := 10) (by decide)]; show ((kn _ : Nat) : Int) = 10; rw [kn_num a na]; rfl
      · have h1 : segsR a b c u v = .er (segK c) := by unfold segsR; rw [if_neg (fun h => h ha), if_neg (fun h => h hb), if_pos hc]
        have hi : ((segK c : Nat) : Int) ≠ 0 := by omega
        rw [h1, ha, hb]
        show ((kn (segK c) : Nat) : Int) = sk (sk (sk (nk (nk 0 0) _) _) _) _
        rw [nk_0, nk_0, sk_ne hi, sk_ne hi, sk_ne hi, k3 c hc]
    · have h1 : segsR a b c u v = .er (segK b) := by unfold segsR; rw [if_neg (fun h => h ha), if_pos hb]
      have hi : ((segK b : Nat) : Int) ≠ 0 := by omega
      rw [h1, ha]
      show ((kn (segK b) : Nat) : Int) = sk (sk (sk (nk (nk 0 _) _) _) _) _
      rw [nk_0, nk_ne hi, sk_ne hi, sk_ne hi, sk_ne hi, k3 b hb]
  · have h1 : segsR a b c u v = .er (segK a) := by unfold segsR; rw [if_pos ha]
    have hi : ((segK a : Nat) : Int) ≠ 0 := by omega
    rw [h1]
    show ((kn (segK a) : Nat) : Int) = _
    rw [nk_ne hi, nk_ne hi, sk_ne hi, sk_ne hi, sk_ne hi, k3 a ha]
end Go.Proofs.YtalpehfjjidfhaaDoor.MY
