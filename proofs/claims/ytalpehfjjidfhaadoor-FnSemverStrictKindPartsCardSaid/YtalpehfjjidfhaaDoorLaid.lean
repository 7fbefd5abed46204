/- What the listed variables give, and the seat's own closed facts: shared by the claims of this seat. -/
import Derived.Test.YtalpehfjjidfhaaDoorHand
import Derived.Test.YtalpehfjjidfhaaDoorCards
import Derived.Test.YtalpehfjjidfhaaDoorTie
import Derived.ProofKit
import Derived.LaidMore
import Derived.Stop.Joined
import Derived.Stop.LaidErr
import Derived.SevenTiedAt
import Derived.MakeChecks
import Derived.JoinedOf
namespace Go.Proofs.YtalpehfjjidfhaaDoor
open Go.RowKit
theorem gER : Tryd.prog.globalNamed "strconv.ErrRange" = some 10 := by kernel_rfl
theorem gERt : (Tryd.prog.globals[10]?).map (·.type) = some 77 := by kernel_rfl
theorem gES : Tryd.prog.globalNamed "strconv.ErrSyntax" = some 9 := by kernel_rfl
theorem gESt : (Tryd.prog.globals[9]?).map (·.type) = some 77 := by kernel_rfl
theorem cellsOf178 : Tryd.prog.cellsOf 178 = 1 := by kernel_rfl
theorem cellsOf9 : Tryd.prog.cellsOf 9 = 1 := by kernel_rfl
theorem star_err : "*" ++ "errors.errorString" = "*errors.errorString" := by decide
theorem row176 (u : TypeId) (h : Tryd.prog.typeName? 3 u = some "*errors.errorString") : u = 176 :=
  typeName_ptr_named (nm := "errors.errorString") (by rw [star_err]; kernel_rfl) (by kernel_rfl) (by decide) u (by rw [star_err]; exact h)
theorem heap11 {w : World} {v : Value} (h : w.cell? ⟨10, 0, none⟩ = some v) : 11 ≤ w.heap.size := by
  rcases Nat.lt_or_ge 10 w.heap.size with h' | h'
  · omega
  · exfalso
    have : w.heap[10]? = none := Array.getElem?_eq_none h'
    simp [World.cell?, this] at h
/-- The two error variables of strconv, from the end of a row's list. -/
theorem gl_of_two {w : World} {r : List (String × DataW Unit)} (hL : laidMet Tryd.prog (("strconv.ErrRange", Rows.laid_strconv_ErrRange) :: ("strconv.ErrSyntax", Rows.laid_strconv_ErrSyntax) :: r) w) : Hand.Gl w := by
  obtain ⟨a1, s1, hv1, -, -, -⟩ := laid_sentinel hL gER gERt Tryd.underlying77 row176 Tryd.underlying176 Tryd.underlying178 rfl rfl Tryd.underlying9 cellsOf178 cellsOf9
  obtain ⟨a0, s0, hv0, -, -, -⟩ := laid_sentinel hL.tail gES gESt Tryd.underlying77 row176 Tryd.underlying176 Tryd.underlying178 rfl rfl Tryd.underlying9 cellsOf178 cellsOf9
  have h0 := World.var?_cell gES hv0 0
  have h1 := World.var?_cell gER hv1 0
  exact ⟨_, _, by simpa using h0, Or.inr ⟨_, _, rfl⟩, by simpa using h1, Or.inr ⟨_, _, rfl⟩, heap11 (by simpa using h1)⟩
theorem seat_laidOut : laidOutB Tryd.pinned.checked.prog = true := by kernel_rfl
theorem seat_mapsRowed : mapsRowed Tryd.pinned.checked.prog = true := by kernel_rfl
theorem seat_stops : (Tryd.pinned.checked.prog.stops == []) = true := by kernel_rfl
theorem seat_stopKnobs : (Tryd.pinned.checked.prog.stopKnobs == []) = true := by kernel_rfl
theorem seat_plainKeys : (Rows.fnSemverPreHeadRow.plainKeys == Tryd.pinned.checked.prog.plainKeys) = true := by kernel_rfl
theorem seat_stopsHeard : Tryd.pinned.checked.prog.stopsHeard = true := by kernel_rfl
theorem words_step (a r : List Char) (h : a.all (fun c => !(c == ' ')) = true) : wordsSigns (a ++ ' ' :: r) = a :: wordsSigns r := by
  induction a with
  | nil => rfl
  | cons c a ih =>
    simp only [List.all_cons, Bool.and_eq_true, Bool.not_eq_true', beq_eq_false_iff_ne, ne_eq] at h
    have ih' := ih (by simpa using h.2)
    rw [List.cons_append, wordsSigns.eq_3 _ _ (fun e => h.1 e), ih']
noncomputable def headRest : List Char := Tryd.pinned.checked.prog.initOrder.toList.drop 77
def headSum : List Char := "687afd419214b23aa8ae3fa9a9b29354224e0283e4623a16da96a68fa394918b".toList
theorem head_take : Tryd.pinned.checked.prog.initOrder.toList.take 77 = ['h', 'a', 'r', 'n', 'e', 's', 's'] ++ ' ' :: (headSum ++ ' ' :: (['c', 'u', 't'] ++ [' '])) := by kernel_rfl
theorem head_eq : Tryd.pinned.checked.prog.initOrder.toList = ['h', 'a', 'r', 'n', 'e', 's', 's'] ++ ' ' :: (headSum ++ ' ' :: (['c', 'u', 't'] ++ ' ' :: headRest)) := by
  conv => lhs; rw [← List.take_append_drop 77 Tryd.pinned.checked.prog.initOrder.toList, head_take]
  simp [headRest]
theorem head_sum : headSum.all (fun c => !(c == ' ')) = true := by kernel_rfl
theorem head_words : behindMainWord (wordsSigns Tryd.pinned.checked.prog.initOrder.toList) = ['c', 'u', 't'] :: wordsSigns headRest := by
  rw [head_eq, words_step _ _ (by decide), words_step _ _ head_sum, words_step _ _ (by decide)]
  have h1 : (['h', 'a', 'r', 'n', 'e', 's', 's'] == "harness".toList || ['h', 'a', 'r', 'n', 'e', 's', 's'] == "ownmain".toList) = true := by decide
  have h2 : isSumSigns headSum = true := by kernel_rfl
  unfold behindMainWord
  dsimp only
  rw [h1, h2]
  rfl
theorem strip_cut (x : List (List Char)) : stripLifts liftWords (['c', 'u', 't'] :: x) = ([], ['c', 'u', 't'] :: x) := by rfl
theorem seat_doorFits : Tryd.pinned.checked.prog.doorFits [] = true := by kernel_rfl
theorem seat_laysLater : Tryd.pinned.checked.prog.laysLater = false := by kernel_rfl
theorem seat_bearsReflect : Tryd.pinned.checked.prog.bearsReflect = false := by kernel_rfl
theorem cut_gc : (['c', 'u', 't'] == "gc".toList) = false := by decide
theorem cut_spec : (['c', 'u', 't'] == "spec".toList) = false := by decide
theorem cut_cut : (['c', 'u', 't'] == "cut".toList) = true := by decide
theorem cut_carried : (['c', 'u', 't'] == "carried".toList) = false := by decide
theorem make_of {P : Program} {x : List (List Char)} (h : behindMainWord (wordsSigns P.initOrder.toList) = ['c', 'u', 't'] :: x) : P.make = some .cut := by
  unfold Program.make
  rw [h]
  dsimp only
  rw [cut_gc, cut_spec, cut_cut]
  rfl
theorem mayEnter_of {P : Program} {x : List (List Char)} (h : behindMainWord (wordsSigns P.initOrder.toList) = ['c', 'u', 't'] :: x) (h1 : P.doorFits [] = true) (h2 : P.laysLater = false) (h3 : P.bearsReflect = false) : P.mayEnter = true := by
  unfold Program.mayEnter
  rw [h]
  dsimp only
  rw [strip_cut, h1, h2, h3]
  simp
theorem headLifts_of {P : Program} {x : List (List Char)} (h : behindMainWord (wordsSigns P.initOrder.toList) = ['c', 'u', 't'] :: x) : P.headLifts = [] := by
  unfold Program.headLifts
  rw [h, strip_cut]
  rfl
theorem liftsFinal_of {P : Program} {x : List (List Char)} (h : behindMainWord (wordsSigns P.initOrder.toList) = ['c', 'u', 't'] :: x) : P.liftsFinal = false := by
  unfold Program.liftsFinal
  rw [h, headLifts_of h]
  rfl
theorem seat_make : Tryd.pinned.checked.prog.make = some .cut := make_of head_words
theorem seat_mayEnter : Tryd.pinned.checked.prog.mayEnter = true := mayEnter_of head_words seat_doorFits seat_laysLater seat_bearsReflect
theorem seat_lifted : Tryd.pinned.checked.prog.liftsFinal = false := liftsFinal_of head_words
theorem seat_looks : true = Tryd.pinned.checked.prog.looks [] := by kernel_rfl
end Go.Proofs.YtalpehfjjidfhaaDoor
