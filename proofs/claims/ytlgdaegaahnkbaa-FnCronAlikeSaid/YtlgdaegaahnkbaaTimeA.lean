/- Package time's inner functions over times without a location (UTC), by hand: what each answers; what they lay in memory is new. -/
import Derived.Test.YtlgdaegaahnkbaaProg
import Derived.WalkKit
import Derived.WalkSpells
import Derived.WalkLawsBesides
import Derived.Lib.Hide
import Derived.Below
namespace Go.Proofs.Ytlgdaegaahnkbaa.Tm
open Go Go.RowKit
set_option linter.unusedVariables false
set_option linter.unusedSimpArgs false
structure Aside0 (P : Prop) : Prop where mk :: (out : P)
theorem ret_int {k : IntKind} {a b : Int} (h : a = b) : Ending.returned (.int k a) = .returned (.int k b) := by rw [h]
theorem mask30 (n : Int) (h0 : 0 ≤ n) (h1 : n < 1000000000) : Go.bits .and .u64 n 1073741823 = n := by
  obtain ⟨k, rfl⟩ : ∃ k : Nat, n = k := ⟨n.toNat, by omega⟩
  have h := bits_and_u64_nat k 1073741823 (by omega) (by decide)
  rw [show ((1073741823 : Nat) : Int) = 1073741823 from rfl] at h
  rw [h, show (1073741823 : Nat) = 2 ^ 30 - 1 by decide, Nat.and_two_pow_sub_one_eq_mod, Nat.mod_eq_of_lt (by omega)]
theorem mask63 (n : Int) (h0 : 0 ≤ n) (h1 : n < 1000000000) : Go.bits .and .u64 n 9223372036854775808 = 0 := by
  obtain ⟨k, rfl⟩ : ∃ k : Nat, n = k := ⟨n.toNat, by omega⟩
  have h := bits_and_u64_nat k 9223372036854775808 (by omega) (by decide)
  rw [show ((9223372036854775808 : Nat) : Int) = 9223372036854775808 from rfl] at h
  rw [h]
  have e : k &&& 9223372036854775808 = 0 := by
    apply Nat.eq_of_testBit_eq
    intro i
    rw [Nat.testBit_and, show (9223372036854775808 : Nat) = 2 ^ 63 by decide, Nat.testBit_two_pow]
    by_cases e : 63 = i
    · subst e
      rw [Nat.testBit_lt_two_pow (by omega)]; simp
    · simp [e]
  rw [e]; rfl
theorem nsec_any (b : Nat) (n : Int) (w : World) (h0 : 0 ≤ n) (h1 : n < 1000000000) (hc : w.cell? ⟨b, 0, none⟩ = some (.int .u64 n)) :
    Calls Try.prog 77 #[.pointer (some ⟨b, 0, none⟩)] w fun e w' => e = .returned (.int .i32 n) ∧ w = w' := by
  have m := mask30 n h0 h1
  go_enter Try.func77, Try.ntmps77
  go_wp2
  go_ret
  exact ⟨rfl, rfl⟩
theorem sec_any (b : Nat) (n s : Int) (w : World) (h0 : 0 ≤ n) (h1 : n < 1000000000) (hc : w.cell? ⟨b, 0, none⟩ = some (.int .u64 n)) (hs : w.cell? ⟨b, 1, none⟩ = some (.int .i64 s)) :
    Calls Try.prog 92 #[.pointer (some ⟨b, 0, none⟩)] w fun e w' => e = .returned (.int .i64 s) ∧ w = w' := by
  have m := mask63 n h0 h1
  go_enter Try.func92, Try.ntmps92
  go_wp2
  go_ret
  exact ⟨rfl, rfl⟩
theorem unixSec_any (b : Nat) (n s : Int) (w : World) (h0 : 0 ≤ n) (h1 : n < 1000000000) (s0 : 0 ≤ s) (s1 : s ≤ 400000000000) (hc : w.cell? ⟨b, 0, none⟩ = some (.int .u64 n)) (hs : w.cell? ⟨b, 1, none⟩ = some (.int .i64 s)) :
    Calls Try.prog 84 #[.pointer (some ⟨b, 0, none⟩)] w fun e w' => e = .returned (.int .i64 (s - 62135596800)) ∧ w = w' := by
  go_enter Try.func84, Try.ntmps84
  go_wp2_with (go_at_call 92; (with_reducible refine (sec_any b n s _ h0 h1 hc hs).mono ?_); rintro e w' ⟨rfl, rfl⟩)
  go_ret
  exact ⟨ret_int (by omega), rfl⟩
theorem stripMono_any (b : Nat) (n : Int) (w : World) (h0 : 0 ≤ n) (h1 : n < 1000000000) (hc : w.cell? ⟨b, 0, none⟩ = some (.int .u64 n)) :
    Calls Try.prog 91 #[.pointer (some ⟨b, 0, none⟩)] w fun e w' => e = .returned (.tuple #[]) ∧ w = w' := by
  have m := mask63 n h0 h1
  go_enter Try.func91, Try.ntmps91
  go_wp2
  go_end0
  exact ⟨rfl, rfl⟩
theorem setLoc_any (b l : Nat) (n : Int) (p : Value) (w : World) (h0 : 0 ≤ n) (h1 : n < 1000000000) (hc : w.cell? ⟨b, 0, none⟩ = some (.int .u64 n)) (hp : w.cell? ⟨b, 2, none⟩ = some p) (hf : w.frozen? ⟨b, 2, none⟩ = false) (hl : w.cell? ⟨l, 0, none⟩ = some (.bool true)) :
    Calls Try.prog 81 #[.pointer (some ⟨b, 0, none⟩), .pointer (some ⟨l, 0, none⟩)] w fun e w' => e = .returned (.tuple #[]) ∧ w' = w.setCell ⟨b, 2, none⟩ (.pointer none) := by
  go_enter Try.func81, Try.ntmps81
  go_wp2_with (go_at_call 91; (with_reducible refine (stripMono_any b n _ h0 h1 hc).mono ?_); rintro e w' ⟨rfl, rfl⟩)
  go_end0
  exact ⟨rfl, rfl⟩
theorem lt_of_cell {w : World} {l o : Nat} {v : Value} (hl : w.cell? ⟨l, o, none⟩ = some v) : l < w.heap.size := by
  rcases Nat.lt_or_ge l w.heap.size with h' | h'
  · exact h'
  · exfalso
    have : w.heap[l]? = none := Array.getElem?_eq_none h'
    simp [World.cell?, this] at hl
theorem cell_alloc {w : World} {l o : Nat} {v : Value} (A : Obj) (hl : w.cell? ⟨l, o, none⟩ = some v) : (w.alloc A).cell? ⟨l, o, none⟩ = some v := by
  have h := ((Below.refl w.heap.size w).alloc (Nat.le_refl _) A).cell (p := ⟨l, o, none⟩) (lt_of_cell hl)
  rw [h]; exact hl
theorem cell_below {w w' : World} {l o : Nat} {v : Value} (hb : Below w.heap.size w w') (hl : w.cell? ⟨l, o, none⟩ = some v) : w'.cell? ⟨l, o, none⟩ = some v := by
  rw [hb.cell (p := ⟨l, o, none⟩) (lt_of_cell hl)]; exact hl
theorem setLoc_new (n s : Int) (l : Nat) (w : World) (B : Obj) (h0 : 0 ≤ n) (h1 : n < 1000000000) (hl : w.cell? ⟨l, 0, none⟩ = some (.bool true)) :
    Calls Try.prog 81 #[.pointer (some ⟨w.heap.size, 0, none⟩), .pointer (some ⟨l, 0, none⟩)] ((w.alloc (.cells #[.int .u64 n, .int .i64 s, .pointer none] 70)).alloc B) fun e w' => e = .returned (.tuple #[]) ∧ (w.alloc (.cells #[.int .u64 n, .int .i64 s, .pointer none] 70)).alloc B = w' := by
  refine (setLoc_any _ l n (.pointer none) _ h0 h1 ?_ ?_ ?_ (cell_alloc B (cell_alloc _ hl))).mono ?_
  · exact cell_alloc B (by go_simp)
  · exact cell_alloc B (by go_simp)
  · go_simp
  · rintro e w' ⟨rfl, rfl⟩
    exact ⟨rfl, by go_simp⟩
theorem in_any (n s : Int) (l : Nat) (w : World) (h0 : 0 ≤ n) (h1 : n < 1000000000) (hl : w.cell? ⟨l, 0, none⟩ = some (.bool true)) :
    Calls Try.prog 62 #[.agg #[.int .u64 n, .int .i64 s, .pointer none], .pointer (some ⟨l, 0, none⟩)] w fun e w' => e = .returned (.agg #[.int .u64 n, .int .i64 s, .pointer none]) ∧ Below w.heap.size w w' := by
  have HL := Lib.hid hl
  clear hl
  go_enter Try.func62, Try.ntmps62
  go_wp2_with (go_at_call 81; (with_reducible refine (setLoc_new n s l w _ h0 h1 HL.out).mono ?_); rintro e w' ⟨rfl, rfl⟩)
  refine bodyPost_ret (v := .agg #[.int .u64 n, .int .i64 s, .pointer none]) (by simp [results, Try.results62, go_sem]) rfl ⟨rfl, ?_⟩
  exact ((Below.refl _ _).alloc (Nat.le_refl _) _).alloc (by simp) _
theorem not30 (n : Int) (h0 : 0 ≤ n) (h1 : n < 1000000000) : Go.bits .andNot .u64 n 1073741823 = 0 := by
  obtain ⟨k, rfl⟩ : ∃ k : Nat, n = k := ⟨n.toNat, by omega⟩
  have h := u64_andNot_nat k 1073741823 (by omega) (by decide)
  rw [show ((1073741823 : Nat) : Int) = 1073741823 from rfl] at h
  rw [h]
  have e : k &&& (18446744073709551615 - 1073741823) = 0 := by
    apply Nat.eq_of_testBit_eq
    intro i
    rw [Nat.testBit_and, show (18446744073709551615 - 1073741823 : Nat) = 2 ^ 30 * 17179869183 by decide, Nat.testBit_two_pow_mul]
    rcases Nat.lt_or_ge i 30 with c | c
    · simp [show ¬ 30 ≤ i by omega]
    · rw [Nat.testBit_lt_two_pow (Nat.lt_of_lt_of_le (show k < 2 ^ 30 by omega) (Nat.pow_le_pow_right (by decide) c))]; simp
  rw [e]; rfl
theorem or00 : Go.bits .or .u64 0 0 = 0 := by decide
theorem addSec_any (b : Nat) (n s k : Int) (w : World) (h0 : 0 ≤ n) (h1 : n < 1000000000) (s0 : 0 ≤ s) (s1 : s ≤ 400000000000) (k0 : -1000000000 ≤ k) (k1 : k ≤ 1000000000)
    (hc : w.cell? ⟨b, 0, none⟩ = some (.int .u64 n)) (hs : w.cell? ⟨b, 1, none⟩ = some (.int .i64 s)) (hf : w.frozen? ⟨b, 1, none⟩ = false) :
    Calls Try.prog 115 #[.pointer (some ⟨b, 0, none⟩), .int .i64 k] w fun e w' => e = .returned (.tuple #[]) ∧ w' = w.setCell ⟨b, 1, none⟩ (.int .i64 (s + k)) := by
  have m := mask63 n h0 h1
  rcases Int.lt_or_le 0 k with hk | hk
  · have e : decide (s < s + k) = true := decide_eq_true (by omega)
    have e2 : decide (0 < k) = true := decide_eq_true hk
    go_enter Try.func115, Try.ntmps115
    go_wp2
    go_end0
    exact ⟨rfl, rfl⟩
  · have e : decide (s < s + k) = false := decide_eq_false (by omega)
    have e2 : decide (0 < k) = false := decide_eq_false (by omega)
    go_enter Try.func115, Try.ntmps115
    go_wp2
    go_end0
    exact ⟨rfl, rfl⟩
theorem addSec_new (n s k : Int) (w : World) (B : Obj) (h0 : 0 ≤ n) (h1 : n < 1000000000) (s0 : 0 ≤ s) (s1 : s ≤ 400000000000) (k0 : -1000000000 ≤ k) (k1 : k ≤ 1000000000) :
    Calls Try.prog 115 #[.pointer (some ⟨w.heap.size, 0, none⟩), .int .i64 k] ((w.alloc (.cells #[.int .u64 n, .int .i64 s, .pointer none] 70)).alloc B) fun e w' => e = .returned (.tuple #[]) ∧ (w.alloc (.cells #[.int .u64 n, .int .i64 (s + k), .pointer none] 70)).alloc B = w' := by
  refine (addSec_any _ n s k _ h0 h1 s0 s1 k0 k1 (cell_alloc B (by go_simp)) (cell_alloc B (by go_simp)) (by go_simp)).mono ?_
  rintro e w' ⟨rfl, rfl⟩
  exact ⟨rfl, by go_simp⟩
theorem nsec_new (n s : Int) (w : World) (B : Obj) (h0 : 0 ≤ n) (h1 : n < 1000000000) :
    Calls Try.prog 77 #[.pointer (some ⟨w.heap.size, 0, none⟩)] ((w.alloc (.cells #[.int .u64 n, .int .i64 s, .pointer none] 70)).alloc B) fun e w' => e = .returned (.int .i32 n) ∧ (w.alloc (.cells #[.int .u64 n, .int .i64 s, .pointer none] 70)).alloc B = w' :=
  nsec_any _ n _ h0 h1 (cell_alloc B (by go_simp))
theorem nsec_new1 (n s : Int) (w : World) (h0 : 0 ≤ n) (h1 : n < 1000000000) :
    Calls Try.prog 77 #[.pointer (some ⟨w.heap.size, 0, none⟩)] (w.alloc (.cells #[.int .u64 n, .int .i64 s, .pointer none] 70)) fun e w' => e = .returned (.int .i32 n) ∧ w.alloc (.cells #[.int .u64 n, .int .i64 s, .pointer none] 70) = w' :=
  nsec_any _ n _ h0 h1 (by go_simp)
theorem sec_new1 (n s : Int) (w : World) (h0 : 0 ≤ n) (h1 : n < 1000000000) :
    Calls Try.prog 92 #[.pointer (some ⟨w.heap.size, 0, none⟩)] (w.alloc (.cells #[.int .u64 n, .int .i64 s, .pointer none] 70)) fun e w' => e = .returned (.int .i64 s) ∧ w.alloc (.cells #[.int .u64 n, .int .i64 s, .pointer none] 70) = w' :=
  sec_any _ n s _ h0 h1 (by go_simp) (by go_simp)
theorem unixSec_new1 (n s : Int) (w : World) (h0 : 0 ≤ n) (h1 : n < 1000000000) (s0 : 0 ≤ s) (s1 : s ≤ 400000000000) :
    Calls Try.prog 84 #[.pointer (some ⟨w.heap.size, 0, none⟩)] (w.alloc (.cells #[.int .u64 n, .int .i64 s, .pointer none] 70)) fun e w' => e = .returned (.int .i64 (s - 62135596800)) ∧ w.alloc (.cells #[.int .u64 n, .int .i64 s, .pointer none] 70) = w' :=
  unixSec_any _ n s _ h0 h1 s0 s1 (by go_simp) (by go_simp)
/-- Add of whole seconds to a time on a whole second. -/
theorem add_any (s d k : Int) (w : World) (s0 : 0 ≤ s) (s1 : s ≤ 400000000000) (k0 : -1000000000 ≤ k) (k1 : k ≤ 1000000000) (hd : d = 1000000000 * k) :
    Calls Try.prog 114 #[.agg #[.int .u64 0, .int .i64 s, .pointer none], .int .i64 d] w fun e w' => e = .returned (.agg #[.int .u64 0, .int .i64 (s + k), .pointer none]) ∧ Below w.heap.size w w' := by
  have e1 : Int.tdiv d 1000000000 = k := by rw [hd]; exact Int.mul_tdiv_cancel_left k (by decide)
  have e2 : Int.tmod d 1000000000 = 0 := by rw [hd]; exact Int.mul_tmod_right ..
  have b1 : -1000000000000000000 ≤ d := by omega
  have b2 : d ≤ 1000000000000000000 := by omega
  have m := mask63 0 (by decide) (by decide)
  have m2 := mask30 0 (by decide) (by decide)
  have m3 := not30 0 (by decide) (by decide)
  have m4 := or00
  have z0 : (0 : Int) ≤ 0 := by decide
  have z1 : (0 : Int) < 1000000000 := by decide
  clear hd
  go_enter Try.func114, Try.ntmps114
  go_wp2_with (first | (go_at_call 77; (with_reducible refine (nsec_new 0 s w _ z0 z1).mono ?_); rintro e w' ⟨rfl, rfl⟩) | (go_at_call 115; (with_reducible refine (addSec_new 0 s k w _ z0 z1 s0 s1 k0 k1).mono ?_); rintro e w' ⟨rfl, rfl⟩))
  refine bodyPost_ret (v := .agg #[.int .u64 0, .int .i64 (s + k), .pointer none]) (by simp [results, Try.results114, go_sem]) rfl ⟨rfl, ?_⟩
  exact ((Below.refl _ _).alloc (Nat.le_refl _) _).alloc (by simp) _
/-- Add of what is missing to the next whole second. -/
theorem add_first (n s d : Int) (w : World) (h0 : 0 ≤ n) (h1 : n < 1000000000) (s0 : 0 ≤ s) (s1 : s ≤ 400000000000) (hd : d = 1000000000 - n) :
    Calls Try.prog 114 #[.agg #[.int .u64 n, .int .i64 s, .pointer none], .int .i64 d] w fun e w' => e = .returned (.agg #[.int .u64 0, .int .i64 (s + 1), .pointer none]) ∧ Below w.heap.size w w' := by
  rcases Int.lt_or_eq_of_le h0 with hn | hn
  · skip
    have e1 : Int.tdiv d 1000000000 = 0 := by rw [hd]; exact Int.tdiv_eq_zero_of_lt (by omega) (by omega)
    have e2 : Int.tmod d 1000000000 = d := by rw [hd]; exact Int.tmod_eq_of_lt (by omega) (by omega)
    have e3 : d / 1000000000 = 0 := by omega
    have e4 : d % 1000000000 = d := by omega
    have b1 : 0 ≤ d := by omega
    have b2 : d ≤ 1000000000 := by omega
    have e5 : n + d = 1000000000 := by omega
    have m := mask63 0 (by decide) (by decide)
    have m3 := not30 n h0 h1
    have m4 := or00
    have z0 : (0 : Int) ≤ 0 := by decide
    have z1 : (0 : Int) < 1000000000 := by decide
    have z2 : (-1000000000 : Int) ≤ 1 := by decide
    have z3 : (1 : Int) ≤ 1000000000 := by decide
    clear hd hn
    go_enter Try.func114, Try.ntmps114
    go_wp2_with (first | (go_at_call 77; (with_reducible refine (nsec_new n s w _ h0 h1).mono ?_); rintro e w' ⟨rfl, rfl⟩) | (go_at_call 115; (with_reducible refine (addSec_new 0 s 1 w _ z0 z1 s0 s1 z2 z3).mono ?_); rintro e w' ⟨rfl, rfl⟩))
    refine bodyPost_ret (v := .agg #[.int .u64 0, .int .i64 (s + 1), .pointer none]) (by simp [results, Try.results114, go_sem]) rfl ⟨rfl, ?_⟩
    exact ((Below.refl _ _).alloc (Nat.le_refl _) _).alloc (by simp) _
  · subst hn
    exact add_any s d 1 w s0 s1 (by decide) (by decide) (by omega)
theorem nano_any (n s : Int) (w : World) (h0 : 0 ≤ n) (h1 : n < 1000000000) :
    Calls Try.prog 55 #[.agg #[.int .u64 n, .int .i64 s, .pointer none]] w fun e w' => e = .returned (.int .i64 n) ∧ Below w.heap.size w w' := by
  go_enter Try.func55, Try.ntmps55
  go_wp2_with (go_at_call 77; (with_reducible refine (nsec_new1 n s w h0 h1).mono ?_); rintro e w' ⟨rfl, rfl⟩)
  go_ret
  exact ⟨rfl, (Below.refl _ _).alloc (Nat.le_refl _) _⟩
theorem unix_any (n s : Int) (w : World) (h0 : 0 ≤ n) (h1 : n < 1000000000) (s0 : 0 ≤ s) (s1 : s ≤ 400000000000) :
    Calls Try.prog 79 #[.agg #[.int .u64 n, .int .i64 s, .pointer none]] w fun e w' => e = .returned (.int .i64 (s - 62135596800)) ∧ Below w.heap.size w w' := by
  go_enter Try.func79, Try.ntmps79
  go_wp2_with (go_at_call 84; (with_reducible refine (unixSec_new1 n s w h0 h1 s0 s1).mono ?_); rintro e w' ⟨rfl, rfl⟩)
  go_ret
  exact ⟨rfl, (Below.refl _ _).alloc (Nat.le_refl _) _⟩
/-- UTC's own block. -/
def U : Obj := .cells #[.bool true, .string ⟨#[85, 84, 67]⟩, .slice none 0 0, .slice none 0 0, .string ⟨#[]⟩, .int .i64 0, .int .i64 0, .pointer none] 137
theorem utc_any (w : World) : Calls Try.prog 63 #[] w fun e w' => e = .returned (.pointer (some ⟨w.heap.size, 0, none⟩)) ∧ w.alloc U = w' := by
  unfold U
  go_enter Try.func63, Try.ntmps63
  go_wp2
  go_ret
  exact ⟨rfl, rfl⟩
theorem get_nil (w : World) : Calls Try.prog 83 #[.pointer none] w fun e w' => e = .returned (.pointer (some ⟨w.heap.size, 0, none⟩)) ∧ w.alloc U = w' := by
  go_enter Try.func83, Try.ntmps83
  go_wp2_with (go_at_call 63; (with_reducible refine (utc_any _).mono ?_); rintro e w' ⟨rfl, rfl⟩)
  go_ret
  exact ⟨rfl, rfl⟩
theorem get_some (l : Nat) (w : World) : Calls Try.prog 83 #[.pointer (some ⟨l, 0, none⟩)] w fun e w' => e = .returned (.pointer (some ⟨l, 0, none⟩)) ∧ w = w' := by
  go_enter Try.func83, Try.ntmps83
  go_wp2
  go_ret
  exact ⟨rfl, rfl⟩
end Go.Proofs.Ytlgdaegaahnkbaa.Tm
