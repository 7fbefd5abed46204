/- What is proved: the specification's Fits as a plain function, for the print. -/
import Derived.Test.YtalpehfjjidfhaaDoorHandSetT
import Derived.Test.YtalpehfjjidfhaaDoorHandText2
namespace Go.Proofs.YtalpehfjjidfhaaDoor.HandS
open Go Go.RowKit Sv Hand MS
set_option linter.unusedVariables false
/-- Whether the text has at most 256 bytes. -/
def Fits.f (a0_0 a0_1 a0_2 : Int) (a0_3 a0_4 : ByteArray) : Option Bool := if vOk a0_0 a0_1 a0_2 a0_3 a0_4 then some (decide ((verT a0_0.toNat a0_1.toNat a0_2.toNat a0_3 a0_4).size ≤ 256)) else none
theorem Fits.calls (a0_0 a0_1 a0_2 : Int) (a0_3 a0_4 : ByteArray) (r : Bool) (w : World) (h : Fits.f a0_0 a0_1 a0_2 a0_3 a0_4 = some r) :
    Calls Tryd.prog 49 #[.agg #[.int .u64 a0_0, .int .u64 a0_1, .int .u64 a0_2, .string a0_3, .string a0_4]] w fun e w' => e = .returned (.bool r) ∧ Below w.heap.size w w' := by
  unfold Fits.f at h
  by_cases hc : vOk a0_0 a0_1 a0_2 a0_3 a0_4
  · rw [if_pos hc] at h
    obtain ⟨h0, h1, h2, hu, hv⟩ := hc
    obtain ⟨M, rfl, hM⟩ := h0.nat
    obtain ⟨m, rfl, hm⟩ := h1.nat
    obtain ⟨t, rfl, ht⟩ := h2.nat
    injection h with h
    subst h
    exact Fits_any M m t a0_3 a0_4 hM hm ht hu hv w
  · rw [if_neg hc] at h; cases h
end Go.Proofs.YtalpehfjjidfhaaDoor.HandS
