/- The reference's least second of a day, by hand: cronTime. -/
import Derived.Test.YtlgdaegaahnkbaaSpecG
namespace Go.Proofs.Ytlgdaegaahnkbaa.Tm
open Go Go.RowKit Cal MC
open Go.Proofs.YtlgdaegaahnkbaaW.PrintWords
set_option linter.unusedVariables false
set_option linter.unusedSimpArgs false
theorem fv_cell {w w1 : World} {b : SB} (h : w1.heap[w.heap.size]? = some (.cells (fv b) 32 (0, 0))) (k : Nat) (v : Int) (hk : k < 6) (h0 : lowK k ≤ v) (h1 : v ≤ highK k) :
    w1.cell? ⟨w.heap.size, 64 * k + 1 + v.toNat, none⟩ = some (.bool (bitOf (fldN b k) v)) := by
  have hl := low_bd (k : Int)
  have hh := high_bd (k : Int)
  rw [blk_cell h, fv_get b _ (by omega)]
  exact congrArg (fun z => some (Value.bool z)) (fcell_in b k v hk h0 h1)
set_option maxHeartbeats 2000000 in
theorem time_any (b : SB) (a : Int) (w : World) (a0 : 0 ≤ a) (a1 : a < 86400) :
    Calls Try.prog 48 #[.agg (fv b), .int .i64 a] w fun e w' => (∃ r, IsTime b.sch a r ∧ e = .returned (.int .i64 r)) ∧ Below w.heap.size w w' := by
  have hF : (w.alloc (.cells (fv b) 32)).heap[w.heap.size]? = some (.cells (fv b) 32 (0, 0)) := heap_at _
  have HF := Aside0.mk hF
  clear hF
  go_enter Try.func48, Try.ntmps48
  go_wp2_with fail
  have HA := Aside0.mk (And.intro a0 a1)
  go_loop [5] (fun h => ∃ n : Nat, h = .int .i64 (n : Int) ∧ Aside0 (n ≤ 24 ∧ NoT b.sch a (3600 * (n : Int)))) (fun h => 24 - (intOf h).toNat)
  case atStart => exact ⟨(a / 3600).toNat, by rw [Int.toNat_of_nonneg (by omega)], ⟨by omega, NoT.none (by omega)⟩⟩
  case round =>
    obtain ⟨n, rfl, hA⟩ := hrel
    by_cases hn : n < 24
    · have c0 := fv_cell (w := w) HF.out 2 (n : Int) (by decide) (by show (0 : Int) ≤ n; omega) (by show (n : Int) ≤ 23; omega)
      rw [show 64 * 2 + 1 + ((n : Nat) : Int).toNat = 129 + n by omega] at c0
      obtain ⟨q, hq⟩ : ∃ q, q = bitOf b.h (n : Int) := ⟨_, rfl⟩
      rw [show bitOf (fldN b 2) (n : Int) = q from hq.symm] at c0
      have HQ := Aside0.mk hq
      clear hq
      cases q with
      | false =>
        go_wp2_with fail
        go_round
        case rel => exact ⟨n + 1, by go_num, ⟨by omega, by have h1 := hA.out.2; have := h1.hour (show b.sch.H (n : Int) = false from HQ.out.symm); simpa using this⟩⟩
        case measure => simp [intOf]; omega
      | true =>
        go_wp2_with fail
        go_loop [21] (fun x => ∃ m : Nat, x = .int .i64 (m : Int) ∧ Aside0 (m ≤ 60 ∧ NoT b.sch a (3600 * (n : Int) + 60 * (m : Int)))) (fun x => 60 - (intOf x).toNat)
        case atStart => exact ⟨0, rfl, ⟨by omega, by have h1 := hA.out.2; simpa using h1⟩⟩
        case round =>
          obtain ⟨m, rfl, hM⟩ := hrel
          by_cases hm : m < 60
          · have c1 := fv_cell (w := w) HF.out 1 (m : Int) (by decide) (by show (0 : Int) ≤ m; omega) (by show (m : Int) ≤ 59; omega)
            rw [show 64 * 1 + 1 + ((m : Nat) : Int).toNat = 65 + m by omega] at c1
            obtain ⟨q2, hq2⟩ : ∃ q, q = bitOf b.i (m : Int) := ⟨_, rfl⟩
            rw [show bitOf (fldN b 1) (m : Int) = q2 from hq2.symm] at c1
            have HQ2 := Aside0.mk hq2
            clear hq2
            cases q2 with
            | false =>
              go_wp2_with fail
              go_round
              case rel => exact ⟨m + 1, by go_num, ⟨by omega, by have h1 := hM.out.2.minute (by omega) (by omega) (show b.sch.I (m : Int) = false from HQ2.out.symm); simpa using h1⟩⟩
              case measure => simp [intOf]; omega
            | true =>
              by_cases hs : 3600 * (n : Int) + 60 * (m : Int) + 59 < a
              · have e0 : decide (3600 * (n : Int) + 60 * (m : Int) + 59 < a) = true := decide_eq_true hs
                go_wp2_with fail
                go_round
                case rel => exact ⟨m + 1, by go_num, ⟨by omega, NoT.none (by omega)⟩⟩
                case measure => simp [intOf]; omega
              · have e0 : decide (3600 * (n : Int) + 60 * (m : Int) + 59 < a) = false := decide_eq_false hs
                go_wp2_with fail
                all_goals
                  go_loop [8] (fun x => ∃ k : Nat, x = .int .i64 (k : Int) ∧ Aside0 (k ≤ 60 ∧ a ≤ 3600 * (n : Int) + 60 * (m : Int) + (k : Int) ∧ NoT b.sch a (3600 * (n : Int) + 60 * (m : Int) + (k : Int)))) (fun x => 60 - (intOf x).toNat)
                  case atStart => first | exact ⟨(a - (3600 * (n : Int) + 60 * (m : Int))).toNat, by rw [Int.toNat_of_nonneg (by omega)], ⟨by omega, by omega, NoT.none (by omega)⟩⟩ | exact ⟨0, rfl, ⟨by omega, by simp; omega, by have h1 := hM.out.2; simpa using h1⟩⟩
                  case round =>
                    obtain ⟨k, rfl, hK⟩ := hrel
                    by_cases hk : k < 60
                    · have c2 := fv_cell (w := w) HF.out 0 (k : Int) (by decide) (by show (0 : Int) ≤ k; omega) (by show (k : Int) ≤ 59; omega)
                      rw [show 64 * 0 + 1 + ((k : Nat) : Int).toNat = 1 + k by omega] at c2
                      obtain ⟨q3, hq3⟩ : ∃ q, q = bitOf b.s (k : Int) := ⟨_, rfl⟩
                      rw [show bitOf (fldN b 0) (k : Int) = q3 from hq3.symm] at c2
                      have HQ3 := Aside0.mk hq3
                      clear hq3
                      cases q3 with
                      | false =>
                        go_wp2_with fail
                        go_round
                        case rel => exact ⟨k + 1, by go_num, ⟨by omega, by have := hK.out.2.1; omega, by have h1 := hK.out.2.2.second (by omega) (by omega) (show b.sch.S (k : Int) = false from HQ3.out.symm); simpa using h1⟩⟩
                        case measure => simp [intOf]; omega
                      | true =>
                        go_wp2_with fail
                        go_ret
                        refine ⟨⟨3600 * (n : Int) + 60 * (m : Int) + (k : Int), Or.inr ⟨hK.out.2.1, by omega, ?_, hK.out.2.2⟩, rfl⟩, (Below.refl _ _).alloc (Nat.le_refl _) _⟩
                        exact fitT_at (by omega) (by omega) (by omega) (by omega) HQ.out.symm HQ2.out.symm HQ3.out.symm
                    · go_wp2_with fail
                      go_round
                      case rel => exact ⟨m + 1, by go_num, ⟨by omega, by have h1 := hK.out.2.2; rw [show k = 60 by have := hK.out.1; omega] at h1; rw [show 3600 * (n : Int) + 60 * ((m + 1 : Nat) : Int) = 3600 * (n : Int) + 60 * (m : Int) + ((60 : Nat) : Int) by omega]; exact h1⟩⟩
                      case measure => simp [intOf]; omega
          · go_wp2_with fail
            go_round
            case rel => exact ⟨n + 1, by go_num, ⟨by omega, by have h1 := hM.out.2; rw [show m = 60 by have := hM.out.1; omega] at h1; rw [show 3600 * ((n + 1 : Nat) : Int) = 3600 * (n : Int) + 60 * ((60 : Nat) : Int) by omega]; exact h1⟩⟩
            case measure => simp [intOf]; omega
    · go_wp2_with fail
      go_ret
      have hn24 : n = 24 := by have := hA.out.1; omega
      refine ⟨⟨-1, Or.inl ⟨rfl, ?_⟩, rfl⟩, (Below.refl _ _).alloc (Nat.le_refl _) _⟩
      have := hA.out.2
      rw [hn24] at this
      exact this
end Go.Proofs.Ytlgdaegaahnkbaa.Tm
