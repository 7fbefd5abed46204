/- What is proved: the setters, increments and printing of a version as plain functions, for the print. -/
import Derived.Test.YtalpehfjjidfhaaDoorHandSetV
namespace Go.Proofs.YtalpehfjjidfhaaDoor.HandS
open Go Go.RowKit Sv Hand MS
open Go.Proofs.YtalpehfjjidfhaaDoor.MA (tl)
set_option linter.unusedVariables false
/-- The error variables and the table of strconv. -/
def GlT (w : World) : Prop := GlS w ∧ Tab w
theorem GlT.below {w w' : World} (h : GlT w) (hb : Below w.heap.size w w') : GlT w' := ⟨h.1.below hb, h.2.below hb⟩
def n64 (x : Int) : Prop := 0 ≤ x ∧ x < 18446744073709551616
instance (x : Int) : Decidable (n64 x) := by unfold n64; infer_instance
theorem n64.nat {x : Int} (h : n64 x) : ∃ n : Nat, x = n ∧ n < 18446744073709551616 := ⟨x.toNat, by obtain ⟨h1, h2⟩ := h; omega, by obtain ⟨h1, h2⟩ := h; omega⟩
/-- Three numbers, and parts of at most 65536 bytes. -/
def vOk (M m t : Int) (u v : ByteArray) : Prop := n64 M ∧ n64 m ∧ n64 t ∧ u.size ≤ 65536 ∧ v.size ≤ 65536
instance (M m t : Int) (u v : ByteArray) : Decidable (vOk M m t u v) := by unfold vOk; infer_instance
def VersionSetPre.f (a0_0 a0_1 a0_2 : Int) (a0_3 a0_4 : ByteArray) (a1 : ByteArray) : Option (Int × Int × Int × ByteArray × ByteArray × Bool) := if vOk a0_0 a0_1 a0_2 a0_3 a0_4 ∧ a1.size ≤ 65536 ∧ 0 < a1.size ∧ firstK preK (bs (splitD (tl a1))) = 0 then some (a0_0, a0_1, a0_2, a1, a0_4, true) else none
theorem VersionSetPre.calls (a0_0 a0_1 a0_2 : Int) (a0_3 a0_4 : ByteArray) (a1 : ByteArray) (r1 r2 r3 : Int) (r4 r5 : ByteArray) (r6 : Bool) (w : World) (hG0 : GlT w) (h : VersionSetPre.f a0_0 a0_1 a0_2 a0_3 a0_4 a1 = some (r1, r2, r3, r4, r5, r6)) :
    Calls Tryd.prog 50 #[.agg #[.int .u64 a0_0, .int .u64 a0_1, .int .u64 a0_2, .string a0_3, .string a0_4], .string a1] w fun e w' => e = .returned (.tuple #[.agg #[.int .u64 r1, .int .u64 r2, .int .u64 r3, .string r4, .string r5], .bool r6]) ∧ Below w.heap.size w w' := by
  unfold VersionSetPre.f at h
  by_cases hc : vOk a0_0 a0_1 a0_2 a0_3 a0_4 ∧ a1.size ≤ 65536 ∧ 0 < a1.size ∧ firstK preK (bs (splitD (tl a1))) = 0
  · rw [if_pos hc] at h
    obtain ⟨⟨h0, h1, h2, hu, hv⟩, hp, hz, hk⟩ := hc
    obtain ⟨M, rfl, hM⟩ := h0.nat
    obtain ⟨m, rfl, hm⟩ := h1.nat
    obtain ⟨t, rfl, ht⟩ := h2.nat
    obtain ⟨⟨E, hE⟩, hT⟩ := hG0
    injection h with h
    injection h with e1 h
    injection h with e2 h
    injection h with e3 h
    injection h with e4 h
    injection h with e5 e6
    subst e1 e2 e3 e4 e5 e6
    exact VersionSetPre_any M m t a0_3 a0_4 a1 hM hm ht hu hv hp hz E hk w hT (hE.sub (by simp))
  · rw [if_neg hc] at h; cases h
def VersionSetMeta.f (a0_0 a0_1 a0_2 : Int) (a0_3 a0_4 : ByteArray) (a1 : ByteArray) : Option (Int × Int × Int × ByteArray × ByteArray × Bool) := if vOk a0_0 a0_1 a0_2 a0_3 a0_4 ∧ a1.size ≤ 65536 ∧ 0 < a1.size ∧ firstK metaK (bs (splitD (tl a1))) = 0 then some (a0_0, a0_1, a0_2, a0_3, a1, true) else none
theorem VersionSetMeta.calls (a0_0 a0_1 a0_2 : Int) (a0_3 a0_4 : ByteArray) (a1 : ByteArray) (r1 r2 r3 : Int) (r4 r5 : ByteArray) (r6 : Bool) (w : World) (hG0 : GlT w) (h : VersionSetMeta.f a0_0 a0_1 a0_2 a0_3 a0_4 a1 = some (r1, r2, r3, r4, r5, r6)) :
    Calls Tryd.prog 51 #[.agg #[.int .u64 a0_0, .int .u64 a0_1, .int .u64 a0_2, .string a0_3, .string a0_4], .string a1] w fun e w' => e = .returned (.tuple #[.agg #[.int .u64 r1, .int .u64 r2, .int .u64 r3, .string r4, .string r5], .bool r6]) ∧ Below w.heap.size w w' := by
  unfold VersionSetMeta.f at h
  by_cases hc : vOk a0_0 a0_1 a0_2 a0_3 a0_4 ∧ a1.size ≤ 65536 ∧ 0 < a1.size ∧ firstK metaK (bs (splitD (tl a1))) = 0
  · rw [if_pos hc] at h
    obtain ⟨⟨h0, h1, h2, hu, hv⟩, hp, hz, hk⟩ := hc
    obtain ⟨M, rfl, hM⟩ := h0.nat
    obtain ⟨m, rfl, hm⟩ := h1.nat
    obtain ⟨t, rfl, ht⟩ := h2.nat
    obtain ⟨⟨E, hE⟩, hT⟩ := hG0
    injection h with h
    injection h with e1 h
    injection h with e2 h
    injection h with e3 h
    injection h with e4 h
    injection h with e5 e6
    subst e1 e2 e3 e4 e5 e6
    exact VersionSetMeta_any M m t a0_3 a0_4 a1 hM hm ht hu hv hp hz E hk w hT (hE.sub (by simp))
  · rw [if_neg hc] at h; cases h
def VersionText.f (a0_0 a0_1 a0_2 : Int) (a0_3 a0_4 : ByteArray) : Option ByteArray := if vOk a0_0 a0_1 a0_2 a0_3 a0_4 then some (verT a0_0.toNat a0_1.toNat a0_2.toNat a0_3 a0_4) else none
theorem VersionText.calls (a0_0 a0_1 a0_2 : Int) (a0_3 a0_4 : ByteArray) (r : ByteArray) (w : World) (hG0 : GlT w) (h : VersionText.f a0_0 a0_1 a0_2 a0_3 a0_4 = some r) :
    Calls Tryd.prog 52 #[.agg #[.int .u64 a0_0, .int .u64 a0_1, .int .u64 a0_2, .string a0_3, .string a0_4]] w fun e w' => e = .returned (.string r) ∧ Below w.heap.size w w' := by
  unfold VersionText.f at h
  by_cases hc : vOk a0_0 a0_1 a0_2 a0_3 a0_4
  · rw [if_pos hc] at h
    obtain ⟨h0, h1, h2, hu, hv⟩ := hc
    obtain ⟨M, rfl, hM⟩ := h0.nat
    obtain ⟨m, rfl, hm⟩ := h1.nat
    obtain ⟨t, rfl, ht⟩ := h2.nat
    injection h with h
    subst h
    exact VersionText_any M m t a0_3 a0_4 hM hm ht hu hv w hG0.2
  · rw [if_neg hc] at h; cases h
theorem StrictT.calls (a0 : ByteArray) (r1 r2 r3 : Int) (r4 r5 : ByteArray) (r6 : Bool) (w : World) (hG0 : GlT w) (h : StrictVersion.f a0 = some (r1, r2, r3, r4, r5, r6)) :
    Calls Tryd.prog 34 #[.string a0] w fun e w' => e = .returned (.tuple #[.agg #[.int .u64 r1, .int .u64 r2, .int .u64 r3, .string r4, .string r5], .bool r6]) ∧ Below w.heap.size w w' := StrictVersion.calls a0 r1 r2 r3 r4 r5 r6 w hG0.1 h
def StrictT.f (a0 : ByteArray) : Option (Int × Int × Int × ByteArray × ByteArray × Bool) := StrictVersion.f a0
/-- strconv's error variables and table. -/
def GlI (w : World) : Prop := Gl w ∧ Tab w
theorem GlI.below {w w' : World} (h : GlI w) (hb : Below w.heap.size w w') : GlI w' := ⟨h.1.below hb, h.2.below hb⟩
def VersionIncPatch.f (a0_0 a0_1 a0_2 : Int) (a0_3 a0_4 : ByteArray) : Option (Int × Int × Int × ByteArray × ByteArray) := if vOk a0_0 a0_1 a0_2 a0_3 a0_4 ∧ (a0_3.toList.isEmpty = false ∨ a0_2 + 1 < 18446744073709551616) then some (if a0_3.toList.isEmpty = false then (a0_0, a0_1, a0_2, ⟨#[]⟩, ⟨#[]⟩) else (a0_0, a0_1, a0_2 + 1, ⟨#[]⟩, ⟨#[]⟩)) else none
theorem VersionIncPatch.calls (a0_0 a0_1 a0_2 : Int) (a0_3 a0_4 : ByteArray) (r1 r2 r3 : Int) (r4 r5 : ByteArray) (w : World) (hG0 : GlI w) (h : VersionIncPatch.f a0_0 a0_1 a0_2 a0_3 a0_4 = some (r1, r2, r3, r4, r5)) :
    Calls Tryd.prog 57 #[.agg #[.int .u64 a0_0, .int .u64 a0_1, .int .u64 a0_2, .string a0_3, .string a0_4]] w fun e w' => e = .returned (.agg #[.int .u64 r1, .int .u64 r2, .int .u64 r3, .string r4, .string r5]) ∧ Below w.heap.size w w' := by
  unfold VersionIncPatch.f at h
  by_cases hc : vOk a0_0 a0_1 a0_2 a0_3 a0_4 ∧ (a0_3.toList.isEmpty = false ∨ a0_2 + 1 < 18446744073709551616)
  · rw [if_pos hc] at h
    obtain ⟨⟨h0, h1, h2, hu, hv⟩, hi⟩ := hc
    obtain ⟨M, rfl, hM⟩ := h0.nat
    obtain ⟨m, rfl, hm⟩ := h1.nat
    obtain ⟨t, rfl, ht⟩ := h2.nat
    by_cases he : a0_3.toList.isEmpty = false
    · rw [if_pos he] at h
      injection h with h
      injection h with e1 h
      injection h with e2 h
      injection h with e3 h
      injection h with e4 e5
      subst e1 e2 e3 e4 e5
      exact VersionIncPatch_pre M m t a0_3 a0_4 hM hm ht hu hv he w hG0.2
    · rw [if_neg he] at h
      injection h with h
      injection h with e1 h
      injection h with e2 h
      injection h with e3 h
      injection h with e4 e5
      subst e1 e2 e3 e4 e5
      exact VersionIncPatch_rel M m t a0_3 a0_4 hM hm ht hu hv (by simpa using he) (by rcases hi with hi | hi; exact absurd hi he; omega) w hG0.2
  · rw [if_neg hc] at h; cases h
def VersionIncMinor.f (a0_0 a0_1 a0_2 : Int) (a0_3 a0_4 : ByteArray) : Option (Int × Int × Int × ByteArray × ByteArray) := if vOk a0_0 a0_1 a0_2 a0_3 a0_4 ∧ a0_1 + 1 < 18446744073709551616 then some (a0_0, a0_1 + 1, 0, ⟨#[]⟩, ⟨#[]⟩) else none
theorem VersionIncMinor.calls (a0_0 a0_1 a0_2 : Int) (a0_3 a0_4 : ByteArray) (r1 r2 r3 : Int) (r4 r5 : ByteArray) (w : World) (hG0 : GlI w) (h : VersionIncMinor.f a0_0 a0_1 a0_2 a0_3 a0_4 = some (r1, r2, r3, r4, r5)) :
    Calls Tryd.prog 58 #[.agg #[.int .u64 a0_0, .int .u64 a0_1, .int .u64 a0_2, .string a0_3, .string a0_4]] w fun e w' => e = .returned (.agg #[.int .u64 r1, .int .u64 r2, .int .u64 r3, .string r4, .string r5]) ∧ Below w.heap.size w w' := by
  unfold VersionIncMinor.f at h
  by_cases hc : vOk a0_0 a0_1 a0_2 a0_3 a0_4 ∧ a0_1 + 1 < 18446744073709551616
  · rw [if_pos hc] at h
    obtain ⟨⟨h0, h1, h2, hu, hv⟩, hi⟩ := hc
    obtain ⟨M, rfl, hM⟩ := h0.nat
    obtain ⟨m, rfl, hm⟩ := h1.nat
    obtain ⟨t, rfl, ht⟩ := h2.nat
    injection h with h
    injection h with e1 h
    injection h with e2 h
    injection h with e3 h
    injection h with e4 e5
    subst e1 e2 e3 e4 e5
    exact VersionIncMinor_any M m t a0_3 a0_4 hM hm ht hu hv (by omega) w hG0.2
  · rw [if_neg hc] at h; cases h
def VersionIncMajor.f (a0_0 a0_1 a0_2 : Int) (a0_3 a0_4 : ByteArray) : Option (Int × Int × Int × ByteArray × ByteArray) := if vOk a0_0 a0_1 a0_2 a0_3 a0_4 ∧ a0_0 + 1 < 18446744073709551616 then some (a0_0 + 1, 0, 0, ⟨#[]⟩, ⟨#[]⟩) else none
theorem VersionIncMajor.calls (a0_0 a0_1 a0_2 : Int) (a0_3 a0_4 : ByteArray) (r1 r2 r3 : Int) (r4 r5 : ByteArray) (w : World) (hG0 : GlI w) (h : VersionIncMajor.f a0_0 a0_1 a0_2 a0_3 a0_4 = some (r1, r2, r3, r4, r5)) :
    Calls Tryd.prog 59 #[.agg #[.int .u64 a0_0, .int .u64 a0_1, .int .u64 a0_2, .string a0_3, .string a0_4]] w fun e w' => e = .returned (.agg #[.int .u64 r1, .int .u64 r2, .int .u64 r3, .string r4, .string r5]) ∧ Below w.heap.size w w' := by
  unfold VersionIncMajor.f at h
  by_cases hc : vOk a0_0 a0_1 a0_2 a0_3 a0_4 ∧ a0_0 + 1 < 18446744073709551616
  · rw [if_pos hc] at h
    obtain ⟨⟨h0, h1, h2, hu, hv⟩, hi⟩ := hc
    obtain ⟨M, rfl, hM⟩ := h0.nat
    obtain ⟨m, rfl, hm⟩ := h1.nat
    obtain ⟨t, rfl, ht⟩ := h2.nat
    injection h with h
    injection h with e1 h
    injection h with e2 h
    injection h with e3 h
    injection h with e4 e5
    subst e1 e2 e3 e4 e5
    exact VersionIncMajor_any M m t a0_3 a0_4 hM hm ht hu hv (by omega) w hG0.2
  · rw [if_neg hc] at h; cases h
def VersionLessI.f (a0_0 a0_1 a0_2 : Int) (a0_3 a0_4 : ByteArray) (a1_0 a1_1 a1_2 : Int) (a1_3 a1_4 : ByteArray) : Option Bool := VersionLess.f a0_0 a0_1 a0_2 a0_3 a0_4 a1_0 a1_1 a1_2 a1_3 a1_4
theorem VersionLessI.calls (a0_0 a0_1 a0_2 : Int) (a0_3 a0_4 : ByteArray) (a1_0 a1_1 a1_2 : Int) (a1_3 a1_4 : ByteArray) (r : Bool) (w : World) (hG0 : GlI w) (h : VersionLessI.f a0_0 a0_1 a0_2 a0_3 a0_4 a1_0 a1_1 a1_2 a1_3 a1_4 = some r) :
    Calls Tryd.prog 31 #[.agg #[.int .u64 a0_0, .int .u64 a0_1, .int .u64 a0_2, .string a0_3, .string a0_4], .agg #[.int .u64 a1_0, .int .u64 a1_1, .int .u64 a1_2, .string a1_3, .string a1_4]] w fun e w' => e = .returned (.bool r) ∧ Below w.heap.size w w' :=
  VersionLess.calls a0_0 a0_1 a0_2 a0_3 a0_4 a1_0 a1_1 a1_2 a1_3 a1_4 r w hG0.1 h
end Go.Proofs.YtalpehfjjidfhaaDoor.HandS
