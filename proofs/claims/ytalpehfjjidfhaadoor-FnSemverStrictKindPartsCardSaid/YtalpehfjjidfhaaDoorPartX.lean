/- What is proved: the walk of FnSemverStrictKindParts by hand: what the law computes. -/
import Derived.Test.YtalpehfjjidfhaaDoorPartW
namespace Go.Proofs.YtalpehfjjidfhaaDoor.MY
open Go Go.RowKit Sv Hand MS Is
open Go.Proofs.YtalpehfjjidfhaaDoorW.PrintWords Go.Proofs.YtalpehfjjidfhaaDoorW.PrintLast Go.Proofs.YtalpehfjjidfhaaDoorW.PrintMore
open Go.Proofs.YtalpehfjjidfhaaDoor.MA (tl)
set_option linter.unusedVariables false
set_option linter.unusedSimpArgs false
/-- The kinds of the numbers, one after the other. -/
def nk (k : Int) (r : Int) : Int := if k = 0 then r else k
def sk (k : Int) (b : Bool) : Int := if k = 0 ∧ b = false then 10 else k
set_option maxHeartbeats 4000000 in
set_option maxRecDepth 100000 in
theorem early (n0 n1 n2 pre mt : ByteArray) (hy pl : Bool) (w : World) (h : fits n0 n1 n2 = false ∨ 2147483647 < pre.size ∨ 2147483647 < mt.size) :
    Calls Tryd.prog 11 #[.agg #[.string n0, .string n1, .string n2], .bool hy, .bool pl, .string pre, .string mt] w fun e w' => e = .returned (.bool true) ∧ Below w.heap.size w w' := by
  have BASE := Aside0.mk ((Below.refl _ w).alloc (Nat.le_refl _) (.cells #[.string n0, .string n1, .string n2] 48))
  cases hf : fits n0 n1 n2 with
  | false =>
    have Z := Aside0.mk hf
    clear hf h
    go_enter Tryd.func11, Tryd.ntmps11
    go_wp2_with (go_at_call 42; (with_reducible refine (zzFits16_any n0 n1 n2 _).mono ?_); rintro e w1 ⟨rfl, hb1⟩; rw [Z.out]; have HB := Aside0.mk (BASE.out.trans (hb1.mono (by simp))); clear hb1)
    go_ret
    exact ⟨rfl, HB.out⟩
  | true =>
    have Z := Aside0.mk hf
    clear hf
    by_cases hp : 2147483647 < pre.size
    · clear h
      go_enter Tryd.func11, Tryd.ntmps11
      go_wp2_with (go_at_call 42; (with_reducible refine (zzFits16_any n0 n1 n2 _).mono ?_); rintro e w1 ⟨rfl, hb1⟩; rw [Z.out]; have HB := Aside0.mk (BASE.out.trans (hb1.mono (by simp))); clear hb1)
      go_ret
      exact ⟨rfl, HB.out⟩
    · have hm : 2147483647 < mt.size := by
        rcases h with h | h | h
        · have := Z.out; rw [h] at this; cases this
        · exact absurd h hp
        · exact h
      clear h
      go_enter Tryd.func11, Tryd.ntmps11
      go_wp2_with (go_at_call 42; (with_reducible refine (zzFits16_any n0 n1 n2 _).mono ?_); rintro e w1 ⟨rfl, hb1⟩; rw [Z.out]; have HB := Aside0.mk (BASE.out.trans (hb1.mono (by simp))); clear hb1)
      go_ret
      exact ⟨rfl, HB.out⟩
end Go.Proofs.YtalpehfjjidfhaaDoor.MY
