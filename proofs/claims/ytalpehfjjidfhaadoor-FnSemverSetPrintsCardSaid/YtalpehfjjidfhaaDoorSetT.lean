/- What is proved: FnSemverSetPrints gives true: the setters' version prints and reads back as itself. -/
import Derived.Test.YtalpehfjjidfhaaDoorMUx2
import Derived.Test.YtalpehfjjidfhaaDoorPlainT
namespace Go.Proofs.YtalpehfjjidfhaaDoor.MU
open Go Go.RowKit Sv Hand MS MT
open Go.Proofs.YtalpehfjjidfhaaDoor.MA (tl validPre smallPre)
set_option linter.unusedVariables false
set_option linter.unusedSimpArgs false
theorem emp (x : ByteArray) : x.toList = [] ↔ tl x = [] := by rw [ByteArray.toList_eq]
theorem n64_of (n : Nat) (h : n < 18446744073709551616) : HandS.n64 (n : Int) := ⟨by omega, by omega⟩
theorem road (M m t : Nat) (p q : ByteArray) (hM : M < 18446744073709551616) (hm : m < 18446744073709551616) (ht : t < 18446744073709551616) (hp : tl p ≠ []) (hq : tl q ≠ []) (sp : p.size ≤ 65536) (sq : q.size ≤ 65536)
    (vp : validPre p = true) (vq : validMeta q = true) (hs : (verT M m t p q).size ≤ 256) : GoodRoad M m t ⟨#[]⟩ ⟨#[]⟩ M m t p q p q := by
  have hM' := n64_of M hM
  have hm' := n64_of m hm
  have ht' := n64_of t ht
  have e0 : (⟨#[]⟩ : ByteArray).size = 0 := rfl
  have zp : 0 < p.size := by
    have := size_data p
    have : 0 < (tl p).length := List.length_pos_iff.2 hp
    have h2 : p.size = (tl p).length := size_data p
    omega
  have zq : 0 < q.size := by
    have : 0 < (tl q).length := List.length_pos_iff.2 hq
    have h2 : q.size = (tl q).length := size_data q
    omega
  have kp : firstK preK (bs (splitD (tl p))) = 0 := (pre_zero _).2 vp
  have kq : firstK metaK (bs (splitD (tl q))) = 0 := (meta_zero _).2 vq
  have V : ∀ u v : ByteArray, u.size ≤ 65536 → v.size ≤ 65536 → HandS.vOk M m t u v := fun u v h1 h2 => ⟨hM', hm', ht', h1, h2⟩
  unfold GoodRoad HandS.VersionSetPre.f HandS.VersionSetMeta.f HandS.VersionText.f HandS.StrictT.f HandS.StrictVersion.f
  rw [if_pos ⟨V _ _ (by omega) (by omega), sp, zp, kp⟩, if_pos ⟨V _ _ sp (by omega), sq, zq, kq⟩, if_pos ⟨V _ _ (by omega) (by omega), sq, zq, kq⟩, if_pos ⟨V _ _ (by omega) sq, sp, zp, kp⟩, if_pos (V _ _ sp sq)]
  have tM : (M : Int).toNat = M := rfl
  have tm : (m : Int).toNat = m := rfl
  have tt : (t : Int).toNat = t := rfl
  rw [tM, tm, tt, if_pos (by omega), read_ver M m t p q hM hm ht hp hq vp vq hs]
  refine ⟨rfl, rfl, rfl, rfl, rfl, ?_⟩
  show some ((M : Int), (m : Int), (t : Int), B (tl p), B (tl q), true) = _
  rw [B_tl, B_tl]
theorem setPrints_pure (M m t : Nat) (a0_3 a0_4 p q : ByteArray) (hM : M < 18446744073709551616) (hm : m < 18446744073709551616) (ht : t < 18446744073709551616) :
    laws_FnSemverSetPrints.f 200300 M m t a0_3 a0_4 p q = some true := by
  have j0t : ∀ x1 x2 a b c d e k, laws_FnSemverSetPrints.j0 (k + 1) x1 x2 true a b c d e = some true := by
    intros; simp only [laws_FnSemverSetPrints.j0, if_true]
  have j1t : ∀ x1 x2 a b c d e a' b' c' d' e' k, laws_FnSemverSetPrints.j1 (k + 1) x1 x2 true a b c d e a' b' c' d' e' = some true := by
    intros; simp only [laws_FnSemverSetPrints.j1, if_true]
  have main : laws_FnSemverSetPrints.j0 (200299 + 1) p q false M m t a0_3 a0_4 = some true := by
    rw [laws_FnSemverSetPrints.j0, if_neg (by decide)]
    show (if p.toList = [] then _ else _) = _
    by_cases hp : p.toList = []
    · rw [if_pos hp]; exact j1t _ _ _ _ _ _ _ _ _ _ _ _ 200298
    rw [if_neg hp]
    by_cases hq : q.toList = []
    · rw [if_pos hq]; exact j1t _ _ _ _ _ _ _ _ _ _ _ _ 200298
    have one : ∀ s : S29, [s].length < 100 := fun s => by simp
    rw [if_neg hq, svGood_f [_] (one _) _ (by omega), Option.bind_some]
    dsimp only
    by_cases hg : ([(⟨M, m, t, p, q⟩ : S29)].all goodS) = true
    · rw [if_pos hg]
      simp only [List.all_cons, List.all_nil, Bool.and_true] at hg
      unfold goodS goodV at hg
      simp only [Bool.and_eq_true, decide_eq_true_eq] at hg
      obtain ⟨⟨sp, sq⟩, g1, g2⟩ := hg
      have np : (tl p).isEmpty = false := by
        rw [List.isEmpty_eq_false_iff]; exact fun h => hp ((emp p).2 h)
      have nq : (tl q).isEmpty = false := by
        rw [List.isEmpty_eq_false_iff]; exact fun h => hq ((emp q).2 h)
      rw [np, Bool.false_or, Bool.and_eq_true] at g1
      rw [nq, Bool.false_or] at g2
      unfold HandS.Fits.f
      rw [if_pos ⟨n64_of M hM, n64_of m hm, n64_of t ht, sp, sq⟩, Option.bind_some]
      show laws_FnSemverSetPrints.j1 _ p q (!decide ((verT M m t p q).size ≤ 256)) _ _ _ _ _ _ _ _ _ _ = _
      by_cases hs : (verT M m t p q).size ≤ 256
      · rw [decide_eq_true hs]
        show laws_FnSemverSetPrints.j1 (200298 + 1) p q false _ _ _ _ _ _ _ _ _ _ = _
        rw [laws_FnSemverSetPrints.j1, if_neg (by decide), if_pos (road M m t p q hM hm ht (fun h => hp ((emp p).2 h)) (fun h => hq ((emp q).2 h)) sp sq g1.1 g2 hs)]
      · rw [decide_eq_false hs]
        exact j1t _ _ _ _ _ _ _ _ _ _ _ _ 200298
    · rw [if_neg hg]; exact j1t _ _ _ _ _ _ _ _ _ _ _ _ 200298
  have any : ∀ b, laws_FnSemverSetPrints.j0 200300 p q b M m t a0_3 a0_4 = some true := by
    intro b
    cases b
    · exact main
    · exact j0t _ _ _ _ _ _ _ 200299
  unfold laws_FnSemverSetPrints.f laws_zzFits14.f
  simp only [any, ite_self]
  split
  · rfl
  · split <;> rfl
theorem wf_u64' {n : Int} (h : (Lit.int .u64 n).wf = true) : ∃ m : Nat, n = m ∧ m < 18446744073709551616 := by
  unfold Lit.wf at h
  simp only [Bool.and_eq_true, decide_eq_true_eq] at h
  have h1 : 0 ≤ n := h.1
  have h2 : n ≤ 18446744073709551615 := h.2
  refine ⟨n.toNat, ?_, ?_⟩ <;> omega
theorem setPrints_walk (a0_0 a0_1 a0_2 : Int) (a0_3 a0_4 : ByteArray) (a1 a2 : ByteArray) (w : World) (hG0 : HandS.GlT w)
    (w0_0 : (Lit.int .u64 a0_0).wf = true) (w0_1 : (Lit.int .u64 a0_1).wf = true) (w0_2 : (Lit.int .u64 a0_2).wf = true) (w0_3 : a0_3.size ≤ maxLen) (w0_4 : a0_4.size ≤ maxLen) (w1 : a1.size ≤ 140737488351232) (w2 : a2.size ≤ 140737488351232) :
    Calls Tryd.prog 12 #[.agg #[.int .u64 a0_0, .int .u64 a0_1, .int .u64 a0_2, .string a0_3, .string a0_4], .string a1, .string a2] w fun e w' => e = .returned (.bool true) ∧ Below w.heap.size w w' := by
  obtain ⟨M, rfl, hM⟩ := wf_u64' w0_0
  obtain ⟨m, rfl, hm⟩ := wf_u64' w0_1
  obtain ⟨t, rfl, ht⟩ := wf_u64' w0_2
  exact laws_FnSemverSetPrints.calls 200300 M m t a0_3 a0_4 a1 a2 true w hG0 (setPrints_pure M m t a0_3 a0_4 a1 a2 hM hm ht)
end Go.Proofs.YtalpehfjjidfhaaDoor.MU
