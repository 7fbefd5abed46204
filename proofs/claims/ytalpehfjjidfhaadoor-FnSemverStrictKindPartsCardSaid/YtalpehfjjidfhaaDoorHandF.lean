/- What is proved: by hand, strconv.FormatUint at base 10, exactly. -/
import Derived.Test.YtalpehfjjidfhaaDoorShelfU
import Derived.Shelf.Strconv.Itoa2
import Derived.Lib.Walk
import Derived.Lib.ItoaMem
import Derived.Lib.AppendIntMem
import Derived.WalkKit
import Derived.BigCall
import Derived.BigGuard
import Derived.Below
namespace Go.Proofs.YtalpehfjjidfhaaDoor.Hand
open Go Go.RowKit Go.Sort Go.Lib
set_option linter.unusedVariables false
/-- The table of the powers of ten that strconv reads. -/
def Tab (w : World) : Prop := TabIs Tryd.prog w "internal/strconv.uint64pow10" .u64 pow10Tab ∧ 11 < w.heap.size
theorem gT : Tryd.prog.globalNamed "internal/strconv.uint64pow10" = some 11 := by kernel_rfl
theorem Tab.below {w w' : World} (h : Tab w) (hb : Below w.heap.size w w') : Tab w' := by
  obtain ⟨h1, h2⟩ := h
  refine ⟨?_, Nat.lt_of_lt_of_le h2 hb.size⟩
  unfold TabIs at h1 ⊢
  rw [← h1]
  unfold World.var?
  rw [gT]
  simp only [Option.bind_some]
  rw [hb.block 11 h2]
set_option maxHeartbeats 1000000 in
theorem fu_small (u : Nat) (hu : u < 100) (w : World) : Calls Tryd.prog 171 #[.int .u64 u, .int .i64 10] w fun e w' => e = .returned (.string ⟨(decDigits u).toArray⟩) ∧ Below w.heap.size w w' := by
  go_enter Tryd.func171, Tryd.ntmps171
  go_wp2_with (first | (go_at_call 185; (with_reducible refine (Tryd.internal_strconv_small u hu _).mono ?_); rintro e w1 ⟨rfl, rfl⟩))
  go_ret
  exact ⟨rfl, Below.refl _ _⟩
set_option maxHeartbeats 2000000 in
theorem fu_big (u : Nat) (hu : 100 ≤ u) (hu64 : u < 18446744073709551616) (w : World) (hT : Tab w) : Calls Tryd.prog 171 #[.int .u64 u, .int .i64 10] w fun e w' => e = .returned (.string ⟨(decDigits u).toArray⟩) ∧ Below w.heap.size w w' := by
  have hu1 : 1 ≤ u := by omega
  have hnd20 : nDigits u ≤ 20 := by have := numDigits_eq u hu1 hu64; split at this <;> omega
  have hal : Tryd.prog.arrayLen 179 = 24 := by kernel_rfl
  have hsl1 : ∀ W, (Instr.sliceAt 179 (.pointer (some ⟨w.heap.size, 0, none⟩)) none (some (.int .i64 (nDigits u : Int))) none).run Tryd.prog W = .ok (.slice (some ⟨w.heap.size, 0, none⟩) (nDigits u) 24) W := fun W => by
    rw [run_sliceAt_array_h W 179 ⟨w.heap.size, 0, none⟩ (by kernel_rfl) .i64 (nDigits u : Int) (by omega) (by rw [hal]; omega)]
    go_simp
  have hH0 := holds_zero0 w 179 (nDigits u) (by omega)
  have hfmt := Tryd.internal_strconv_formatBase10 w.heap.size 0 24 u (Array.replicate (nDigits u) 0) (w.alloc (.cells zeros24 179)) hH0 (by rw [Array.size_replicate]; exact lt_pow_nDigits u) hu64 (by rw [Array.size_replicate]; omega)
  rw [Array.size_replicate] at hfmt
  have HH0 := hid hH0
  have HT := hid hT
  have HF := hid hfmt
  clear hH0 hal hT hfmt
  have c1 : decide ((u : Int) < 100) = false := decide_eq_false (by omega)
  go_enter Tryd.func171, Tryd.ntmps171
  go_wp2_with (first
    | (go_at_call 186; refine (Tryd.internal_strconv_numDigits u hu1 hu64 _ (tabIs_alloc HT.out.1 _)).mono ?_; rintro e w' ⟨rfl, rfl⟩))
  go_at_call 187
  refine HF.out.mono ?_
  rintro e w' ⟨rfl, k, v', dk, rfl, hF⟩
  have hcv : (convert 82 9 (.slice (some ⟨w.heap.size, 0, none⟩) (nDigits u) 24)).run Tryd.prog ((putRow (fun (b : UInt8) => Value.int .u8 (b.toNat : Int)) (w.alloc (.cells zeros24 179)) w.heap.size 0 dk).drewN k) = .ok (.string ⟨(decDigits u).toArray⟩) ((putRow (fun (b : UInt8) => Value.int .u8 (b.toNat : Int)) (w.alloc (.cells zeros24 179)) w.heap.size 0 dk).drewN k) := by
    have h := run_convert_bytes_back (P := Tryd.prog) ((putRow (fun (b : UInt8) => Value.int .u8 (b.toNat : Int)) (w.alloc (.cells zeros24 179)) w.heap.size 0 dk).drewN k) 82 9 5 ⟨w.heap.size, 0, none⟩ 24 (decDigits u) Tryd.underlying82 Tryd.underlying5 Tryd.underlying9 (fun j hj => by
      rw [row_is_numeral hF j hj, add_plain, World.cell?_drewN]
      exact cell?_putRow (fun (b : UInt8) => Value.int .u8 (b.toNat : Int)) _ w.heap.size 0 _ dk HH0.out (by rw [hF.size, Array.size_replicate]) j (by rw [hF.size]; rw [decDigits_length] at hj; exact hj))
    rw [decDigits_length] at h
    exact h
  go_wp2
  go_ret
  obtain ⟨os, eo⟩ := fin_at w (.cells zeros24 179) dk k 0
  refine ⟨rfl, ?_⟩
  rw [eo]
  exact below_grow _ w (Nat.le_refl _) k os
/-- strconv.FormatUint at base 10. -/
theorem FormatUint_any (u : Nat) (hu64 : u < 18446744073709551616) (w : World) (hT : Tab w) : Calls Tryd.prog 150 #[.int .u64 u, .int .i64 10] w fun e w' => e = .returned (.string ⟨(decDigits u).toArray⟩) ∧ Below w.heap.size w w' := by
  have X : Calls Tryd.prog 171 #[.int .u64 u, .int .i64 10] w fun e w' => e = .returned (.string ⟨(decDigits u).toArray⟩) ∧ Below w.heap.size w w' := by
    by_cases h : u < 100
    · exact fu_small u h w
    · exact fu_big u (by omega) hu64 w hT
  go_enter Tryd.func150, Tryd.ntmps150
  go_wp2_with (first | (go_at_call 171; (with_reducible refine X.mono ?_); rintro e w1 ⟨rfl, hb⟩))
  go_ret
  exact ⟨rfl, hb⟩
end Go.Proofs.YtalpehfjjidfhaaDoor.Hand
