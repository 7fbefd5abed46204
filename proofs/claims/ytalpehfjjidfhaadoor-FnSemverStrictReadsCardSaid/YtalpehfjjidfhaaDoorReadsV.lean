/- What is proved: FnSemverStrictReads as a plain statement, and its walk. No program in sight in the first. -/
import Derived.Test.YtalpehfjjidfhaaDoorMVx2
namespace Go.Proofs.YtalpehfjjidfhaaDoor.MV
open Go Go.RowKit Go.Proofs.YtalpehfjjidfhaaDoorW.PrintWords Sv Hand
set_option linter.unusedVariables false
set_option linter.unusedSimpArgs false
theorem svShort1 (x : ByteArray) (k : Nat) (hk : 2 ≤ k) : laws_svShort.f k [x] = some (decide (x.size ≤ 65536)) := by
  obtain ⟨k, rfl⟩ : ∃ k', k = k' + 2 := ⟨k - 2, by omega⟩
  unfold laws_svShort.f laws_svShort.l0
  rw [if_pos (by simp), if_pos (by omega), if_pos (by simp)]
  have e : rdOf ByteArray.empty [x] 0 = x := rfl
  rw [e]
  by_cases h : (x.size : Int) > 65536
  · rw [if_pos h, decide_eq_false (by omega)]
  · rw [if_neg h, decide_eq_true (by omega)]
    unfold laws_svShort.l0
    have e2 : wrap64 (0 + 1) = 1 := by unfold wrap64; omega
    have e3 : (([x].length : Nat) : Int) = 1 := rfl
    rw [e2, e3, if_neg (by omega)]
theorem strictReads_pure : laws_FnSemverStrictReads.Pure := by
  intro a0 h
  refine ⟨2, ?_⟩
  unfold laws_FnSemverStrictReads.f
  by_cases h1 : (a0.size : Int) > 2147483647
  · rw [if_pos h1]
  · rw [if_neg h1, svShort1 a0 2 (Nat.le_refl 2), Option.bind_some]
    by_cases h2 : a0.size ≤ 65536
    · rw [decide_eq_true h2, if_pos rfl]
      unfold HandS.SpecStrict.f HandS.StrictVersion.f
      rw [if_pos h]
      simp
    · rw [decide_eq_false h2, if_neg (by decide)]
theorem strictReads_walk (a0 : ByteArray) (w : World) (hG0 : HandS.GlS w) (w0 : a0.size ≤ 140737488351232) :
    Calls Tryd.prog 8 #[.string a0] w fun e w' => e = .returned (.bool true) ∧ Below w.heap.size w w' :=
  laws_FnSemverStrictReads.walk strictReads_pure a0 w hG0 w0
end Go.Proofs.YtalpehfjjidfhaaDoor.MV
