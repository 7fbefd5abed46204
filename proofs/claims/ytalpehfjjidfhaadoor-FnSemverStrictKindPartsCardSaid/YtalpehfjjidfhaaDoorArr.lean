/- An argument that is an array of three texts, opened. -/
import Derived.Test.YtalpehfjjidfhaaDoorKindT
import Derived.Test.YtalpehfjjidfhaaDoorLaid
import Derived.OpenShut
namespace Go.Proofs.YtalpehfjjidfhaaDoor
open Go Go.RowKit
theorem cells48 : Tryd.prog.cellsOf 48 = 3 := by kernel_rfl
set_option maxRecDepth 100000 in
theorem openA48 {H : Type} {enc : TypeId × Value → H} {w : World} {base : Nat} {spare : Nat → Bool} {held : Bool} {r : Reach} {b0 : Nat} {v : Value} {d : DataW H} {p : List MemPlace}
    (hv : Value.okWide Tryd.prog w r b0 48 v) (h : DataW.Trod enc Tryd.prog w base spare held 48 v d p) :
    ∃ a b c : ByteArray, v = .agg #[.string a, .string b, .string c] ∧ p = [] := by
  obtain ⟨cs, rfl, hsz, _⟩ : ∃ cs, v = .agg cs ∧ cs.size = Tryd.prog.cellsOf 48 ∧ Row.okWide Tryd.prog w r b0 48 cs := by
    simpa [Value.okWide, Tryd.underlying48] using hv
  rw [cells48] at hsz
  obtain ⟨l⟩ := cs
  obtain ⟨fuel, hf⟩ := h
  obtain ⟨xs, m, _, hx, hl, hn, hg⟩ := DataW.trod_array Tryd.underlying48 hf
  match l, hsz, xs, hn with
  | [c0, c1, c2], _, [y0, y1, y2], _ =>
    have e9 : Tryd.prog.cellsOf 9 = 1 := by kernel_rfl
    have h0 := hg 0 (by decide)
    have h1 := hg 1 (by decide)
    have h2 := hg 2 (by decide)
    rw [e9] at h0 h1 h2
    obtain ⟨a, e0, q0, _⟩ := DataW.trod_string Tryd.underlying9 h0
    obtain ⟨b, e1, q1, _⟩ := DataW.trod_string Tryd.underlying9 h1
    obtain ⟨c, e2, q2, _⟩ := DataW.trod_string Tryd.underlying9 h2
    simp [Value.cells] at e0 e1 e2
    simp only [Prod.mk.injEq] at hx
    subst e0 e1 e2
    refine ⟨a, b, c, rfl, ?_⟩
    rw [hx.2]
    simp [q0, q1, q2]
end Go.Proofs.YtalpehfjjidfhaaDoor
