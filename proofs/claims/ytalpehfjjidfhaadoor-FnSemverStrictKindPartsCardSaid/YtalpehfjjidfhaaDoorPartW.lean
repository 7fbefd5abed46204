/- What is proved: the walk of FnSemverStrictKindParts by hand. -/
import Derived.Test.YtalpehfjjidfhaaDoorMYx1
import Derived.Test.YtalpehfjjidfhaaDoorGramS
namespace Go.Proofs.YtalpehfjjidfhaaDoor.MY
open Go Go.RowKit Sv Hand MS Is
open Go.Proofs.YtalpehfjjidfhaaDoorW.PrintWords Go.Proofs.YtalpehfjjidfhaaDoorW.PrintLast Go.Proofs.YtalpehfjjidfhaaDoorW.PrintMore
open Go.Proofs.YtalpehfjjidfhaaDoor.MA (tl)
set_option linter.unusedVariables false
set_option linter.unusedSimpArgs false
/-- Three texts. -/
def ar (a b c : ByteArray) : Value := .agg #[.string a, .string b, .string c]
theorem ix0 (a b c : ByteArray) (w : World) : (Instr.index 48 (.agg #[.string a, .string b, .string c]) (.int .i64 0)).run Tryd.prog w = .ok (.string a) w := by kernel_rfl
theorem ix1 (a b c : ByteArray) (w : World) : (Instr.index 48 (.agg #[.string a, .string b, .string c]) (.int .i64 1)).run Tryd.prog w = .ok (.string b) w := by kernel_rfl
theorem ix2 (a b c : ByteArray) (w : World) : (Instr.index 48 (.agg #[.string a, .string b, .string c]) (.int .i64 2)).run Tryd.prog w = .ok (.string c) w := by kernel_rfl
def fits (a b c : ByteArray) : Bool := decide (a.size ≤ 2147483647) && (decide (b.size ≤ 2147483647) && decide (c.size ≤ 2147483647))
set_option maxHeartbeats 1000000 in
set_option maxRecDepth 100000 in
theorem zzFits16_any (a b c : ByteArray) (w : World) : Calls Tryd.prog 42 #[.agg #[.string a, .string b, .string c]] w fun e w' => e = .returned (.bool (fits a b c)) ∧ Below w.heap.size w w' := by
  have i0 := ix0 a b c
  have i1 := ix1 a b c
  have i2 := ix2 a b c
  have HB := Aside0.mk ((Below.refl _ w).alloc (Nat.le_refl _) (.cells #[.string a, .string b, .string c] 48))
  by_cases h0 : a.size ≤ 2147483647
  · by_cases h1 : b.size ≤ 2147483647
    · by_cases h2 : c.size ≤ 2147483647
      · have e : fits a b c = true := by unfold fits; simp [h0, h1, h2]
        rw [e]
        clear e
        go_enter Tryd.func42, Tryd.ntmps42
        go_wp2
        refine wp_loop_rounds 4 ?_
        rw [rounds_succ]
        go_wp2
        rw [rounds_succ]
        go_wp2
        rw [rounds_succ]
        go_wp2
        rw [rounds_succ]
        go_wp2
        go_ret
        exact ⟨rfl, HB.out⟩
      · have e : fits a b c = false := by unfold fits; simp [h0, h1, h2]
        rw [e]
        clear e
        go_enter Tryd.func42, Tryd.ntmps42
        go_wp2
        refine wp_loop_rounds 4 ?_
        rw [rounds_succ]
        go_wp2
        rw [rounds_succ]
        go_wp2
        rw [rounds_succ]
        go_wp2
        go_ret
        exact ⟨rfl, HB.out⟩
    · have e : fits a b c = false := by unfold fits; simp [h0, h1]
      rw [e]
      clear e
      go_enter Tryd.func42, Tryd.ntmps42
      go_wp2
      refine wp_loop_rounds 4 ?_
      rw [rounds_succ]
      go_wp2
      rw [rounds_succ]
      go_wp2
      go_ret
      exact ⟨rfl, HB.out⟩
  · have e : fits a b c = false := by unfold fits; simp [h0]
    rw [e]
    clear e
    go_enter Tryd.func42, Tryd.ntmps42
    go_wp2
    refine wp_loop_rounds 4 ?_
    rw [rounds_succ]
    go_wp2
    go_ret
    exact ⟨rfl, HB.out⟩
end Go.Proofs.YtalpehfjjidfhaaDoor.MY
