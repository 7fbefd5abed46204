/- What the listed table of powers of ten gives. -/
import Derived.Test.YtalpehfjjidfhaaDoorLaidS
import Derived.Test.YtalpehfjjidfhaaDoorHandF
import Derived.Lib.LaidTab
namespace Go.Proofs.YtalpehfjjidfhaaDoor
open Go.RowKit
theorem gTt : (Tryd.prog.globals[11]?).map (·.type) = some 189 := by kernel_rfl
theorem tab_data : @Rows.laid_internal_strconv_uint64pow10 Unit = Lib.tabData .u64 Lib.pow10Tab := by rfl
theorem tab_of {w : World} {r : List (String × DataW Unit)} (hL : laidMet Tryd.prog (("internal/strconv.uint64pow10", Rows.laid_internal_strconv_uint64pow10) :: r) w) : Hand.Tab w := by
  rw [tab_data] at hL
  have h := Lib.tabIs_of_head Hand.gT gTt Tryd.underlying189 Tryd.underlying27 (by kernel_rfl) (by kernel_rfl) hL
  refine ⟨h, ?_⟩
  rcases Nat.lt_or_ge 11 w.heap.size with h' | h'
  · exact h'
  · exfalso
    unfold Lib.TabIs World.var? at h
    rw [Hand.gT] at h
    have : w.heap[11]? = none := Array.getElem?_eq_none h'
    simp [this] at h
end Go.Proofs.YtalpehfjjidfhaaDoor
