/- What is proved: by hand, the making of a term out of a version. -/
import Derived.Test.YtalpehfjjidfhaaDoorHandC
namespace Go.Proofs.YtalpehfjjidfhaaDoor.Hand
set_option linter.unusedVariables false
set_option linter.unusedSimpArgs false
open Go.RowKit Go.Proofs.YtalpehfjjidfhaaDoorW.PrintWords Sv
set_option maxHeartbeats 1000000 in
theorem stTerm_3 (a0 M m t : Int) (u v : ByteArray) (k : Int) (h1 : k > 1) (h2 : k > 2) (w : World) : Calls Tryd.prog 40 #[.int .i64 a0, .agg #[.int .u64 M, .int .u64 m, .int .u64 t, .string u, .string v], .int .i64 k] w fun e w' => e = .returned (.agg #[.int .i64 a0, .int .i64 k, .int .u64 M, .int .u64 m, .int .u64 t, .string u]) ∧ Below w.heap.size w w' := by
  go_enter Tryd.func40, Tryd.ntmps40
  go_wp2_with fail
  go_region
  go_wp2
  refine bodyPost_ret (v := .agg #[.int .i64 a0, .int .i64 k, .int .u64 M, .int .u64 m, .int .u64 t, .string u]) (by simp [results, Tryd.results40, go_sem]) rfl ?_
  exact ⟨rfl, ((((Below.refl _ _).alloc (Nat.le_refl _) _).alloc (by simp) _).alloc (by simp; omega) _).drew⟩
set_option maxHeartbeats 1000000 in
theorem stTerm_2 (a0 M m t : Int) (u v : ByteArray) (k : Int) (h1 : k > 1) (h2 : ¬ k > 2) (w : World) : Calls Tryd.prog 40 #[.int .i64 a0, .agg #[.int .u64 M, .int .u64 m, .int .u64 t, .string u, .string v], .int .i64 k] w fun e w' => e = .returned (.agg #[.int .i64 a0, .int .i64 k, .int .u64 M, .int .u64 m, .int .u64 0, .string ⟨#[]⟩]) ∧ Below w.heap.size w w' := by
  go_enter Tryd.func40, Tryd.ntmps40
  go_wp2
  refine bodyPost_ret (v := .agg #[.int .i64 a0, .int .i64 k, .int .u64 M, .int .u64 m, .int .u64 0, .string ⟨#[]⟩]) (by simp [results, Tryd.results40, go_sem]) rfl ?_
  exact ⟨rfl, ((((Below.refl _ _).alloc (Nat.le_refl _) _).alloc (by simp) _).alloc (by simp; omega) _)⟩
set_option maxHeartbeats 1000000 in
theorem stTerm_1 (a0 M m t : Int) (u v : ByteArray) (k : Int) (h1 : ¬ k > 1) (w : World) : Calls Tryd.prog 40 #[.int .i64 a0, .agg #[.int .u64 M, .int .u64 m, .int .u64 t, .string u, .string v], .int .i64 k] w fun e w' => e = .returned (.agg #[.int .i64 a0, .int .i64 k, .int .u64 M, .int .u64 0, .int .u64 0, .string ⟨#[]⟩]) ∧ Below w.heap.size w w' := by
  have h2 : ¬ k > 2 := by omega
  go_enter Tryd.func40, Tryd.ntmps40
  go_wp2
  refine bodyPost_ret (v := .agg #[.int .i64 a0, .int .i64 k, .int .u64 M, .int .u64 0, .int .u64 0, .string ⟨#[]⟩]) (by simp [results, Tryd.results40, go_sem]) rfl ?_
  exact ⟨rfl, ((((Below.refl _ _).alloc (Nat.le_refl _) _).alloc (by simp) _).alloc (by simp; omega) _)⟩
def stTerm.f (a0 a1_0 a1_1 a1_2 : Int) (a1_3 a1_4 : ByteArray) (a2 : Int) : Option (Int × Int × Int × Int × Int × ByteArray) := if a2 > 1 then if a2 > 2 then some (a0, a2, a1_0, a1_1, a1_2, a1_3) else some (a0, a2, a1_0, a1_1, 0, ⟨#[]⟩) else some (a0, a2, a1_0, 0, 0, ⟨#[]⟩)
theorem stTerm.calls (a0 a1_0 a1_1 a1_2 : Int) (a1_3 a1_4 : ByteArray) (a2 : Int) (r1 r2 r3 r4 r5 : Int) (r6 : ByteArray) (w : World) (h : stTerm.f a0 a1_0 a1_1 a1_2 a1_3 a1_4 a2 = some (r1, r2, r3, r4, r5, r6)) :
    Calls Tryd.prog 40 #[.int .i64 a0, .agg #[.int .u64 a1_0, .int .u64 a1_1, .int .u64 a1_2, .string a1_3, .string a1_4], .int .i64 a2] w fun e w' => e = .returned (.agg #[.int .i64 r1, .int .i64 r2, .int .u64 r3, .int .u64 r4, .int .u64 r5, .string r6]) ∧ Below w.heap.size w w' := by
  unfold stTerm.f at h
  by_cases h1 : a2 > 1
  · by_cases h2 : a2 > 2
    · rw [if_pos h1, if_pos h2] at h
      injection h with h; simp only [Prod.mk.injEq] at h
      obtain ⟨rfl, rfl, rfl, rfl, rfl, rfl⟩ := h
      exact stTerm_3 _ _ _ _ _ _ _ h1 h2 w
    · rw [if_pos h1, if_neg h2] at h
      injection h with h; simp only [Prod.mk.injEq] at h
      obtain ⟨rfl, rfl, rfl, rfl, rfl, rfl⟩ := h
      exact stTerm_2 _ _ _ _ _ _ _ h1 h2 w
  · rw [if_neg h1] at h
    injection h with h; simp only [Prod.mk.injEq] at h
    obtain ⟨rfl, rfl, rfl, rfl, rfl, rfl⟩ := h
    exact stTerm_1 _ _ _ _ _ _ _ h1 w
end Go.Proofs.YtalpehfjjidfhaaDoor.Hand
