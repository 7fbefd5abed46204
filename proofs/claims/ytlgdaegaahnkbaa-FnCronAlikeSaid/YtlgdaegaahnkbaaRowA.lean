/- FnCronAlike: the row (printed by gen_row5.py). -/
import Derived.Test.YtlgdaegaahnkbaaLawA
import Derived.Test.YtlgdaegaahnkbaaRows
import Derived.WalkKit
import Derived.ProofKit
import Derived.OpenShut
import Derived.ChangeOld
import Derived.Below
import Derived.SizedLaws
import Derived.WalkSpells
import Derived.WalkLawsBesides
import Derived.Lib.Hide
import Derived.Deep.Fields
import Derived.WideShapes
import Derived.ChangeShapes
import Derived.Lib.SmallJoins
import Derived.RowKit

namespace Go.Proofs.Ytlgdaegaahnkbaa.Tm
open Go Go.RowKit Cal MC
set_option linter.unusedVariables false
set_option linter.unusedSimpArgs false
theorem u64_nat {a : Int} (h : (Lit.int .u64 a).wf = true) : ∃ A : Nat, a = (A : Int) ∧ A < 18446744073709551616 := by
  have : 0 ≤ a ∧ a ≤ 18446744073709551615 := by simpa [Lit.wf, IntKind.min, IntKind.max, IntKind.bits, IntKind.signed] using h
  exact ⟨a.toNat, by omega, by omega⟩
theorem i64_in {a : Int} (h : (Lit.int .i64 a).wf = true) : -9223372036854775808 ≤ a ∧ a ≤ 9223372036854775807 := by
  simpa [Lit.wf, IntKind.min, IntKind.max, IntKind.bits, IntKind.signed] using h
theorem case_split (ev : Bool) (dl s i h d m w x nn : Int) : laws_cronCase.f ev dl s i h d m w x nn = some false ∨ (ev = false ∧ laws_cronCase.f ev dl s i h d m w x nn = some true ∧ -62135596800 ≤ x ∧ x ≤ 253402300799 ∧ 0 ≤ nn ∧ nn < 1000000000) := by
  rw [case_f]
  by_cases c : ev = false ∧ -62135596800 ≤ x ∧ x ≤ 253402300799 ∧ 0 ≤ nn ∧ nn < 1000000000
  · refine Or.inr ⟨c.1, ?_, c.2⟩
    simp [c]
  · refine Or.inl ?_
    congr 1
    simp only [Bool.and_eq_false_iff, Bool.not_eq_false', decide_eq_false_iff_not]
    cases ev
    · by_cases c1 : -62135596800 ≤ x
      · by_cases c2 : x ≤ 253402300799
        · by_cases c3 : 0 ≤ nn
          · exact Or.inr (Or.inr (Or.inr (Or.inr fun c4 => c ⟨rfl, c1, c2, c3, c4⟩)))
          · exact Or.inr (Or.inr (Or.inr (Or.inl c3)))
        · exact Or.inr (Or.inr (Or.inl c2))
      · exact Or.inr (Or.inl c1)
    · exact Or.inl rfl
theorem law_walk (ev : Bool) (dl s i h d m wk : Int) (ev2 : Bool) (dl2 s2 i2 h2 d2 m2 wk2 x nn : Int) (W : World) (w_dl : (Lit.int .i64 dl).wf = true) (w_s : (Lit.int .u64 s).wf = true) (w_i : (Lit.int .u64 i).wf = true) (w_h : (Lit.int .u64 h).wf = true) (w_d : (Lit.int .u64 d).wf = true) (w_m : (Lit.int .u64 m).wf = true) (w_wk : (Lit.int .u64 wk).wf = true) (w_dl2 : (Lit.int .i64 dl2).wf = true) (w_s2 : (Lit.int .u64 s2).wf = true) (w_i2 : (Lit.int .u64 i2).wf = true) (w_h2 : (Lit.int .u64 h2).wf = true) (w_d2 : (Lit.int .u64 d2).wf = true) (w_m2 : (Lit.int .u64 m2).wf = true) (w_wk2 : (Lit.int .u64 wk2).wf = true) (w_x : (Lit.int .i64 x).wf = true) (w_nn : (Lit.int .i64 nn).wf = true) :
    Calls Try.prog 8 #[.agg #[.bool ev, .int .i64 dl, .int .u64 s, .int .u64 i, .int .u64 h, .int .u64 d, .int .u64 m, .int .u64 wk], .agg #[.bool ev2, .int .i64 dl2, .int .u64 s2, .int .u64 i2, .int .u64 h2, .int .u64 d2, .int .u64 m2, .int .u64 wk2], .agg #[.int .i64 x, .int .i64 nn]] W fun e w' => e = .returned (.bool true) ∧ Below W.heap.size W w' := by
  obtain ⟨S, rfl, hS⟩ := u64_nat w_s
  obtain ⟨S2, rfl, hS2⟩ := u64_nat w_s2
  obtain ⟨I, rfl, hI⟩ := u64_nat w_i
  obtain ⟨I2, rfl, hI2⟩ := u64_nat w_i2
  obtain ⟨H, rfl, hH⟩ := u64_nat w_h
  obtain ⟨H2, rfl, hH2⟩ := u64_nat w_h2
  obtain ⟨D, rfl, hD⟩ := u64_nat w_d
  obtain ⟨D2, rfl, hD2⟩ := u64_nat w_d2
  obtain ⟨M, rfl, hM⟩ := u64_nat w_m
  obtain ⟨M2, rfl, hM2⟩ := u64_nat w_m2
  obtain ⟨WK, rfl, hWK⟩ := u64_nat w_wk
  obtain ⟨WK2, rfl, hWK2⟩ := u64_nat w_wk2
  have hwa : Wf ⟨S, I, H, D, M, WK⟩ := ⟨hS, hI, hH, hD, hM, hWK⟩
  have hwb : Wf ⟨S2, I2, H2, D2, M2, WK2⟩ := ⟨hS2, hI2, hH2, hD2, hM2, hWK2⟩
  rcases case_split ev dl S I H D M WK x nn with hc | ⟨rfl, hc, x0, x1, n0, n1⟩
  · exact alike_bad ev ev2 dl dl2 x nn ⟨S, I, H, D, M, WK⟩ ⟨S2, I2, H2, D2, M2, WK2⟩ W hc
  · cases ev2 with
    | true => exact alike_every dl dl2 x nn ⟨S, I, H, D, M, WK⟩ ⟨S2, I2, H2, D2, M2, WK2⟩ W hc
    | false => exact alike_main dl dl2 x nn ⟨S, I, H, D, M, WK⟩ ⟨S2, I2, H2, D2, M2, WK2⟩ W hwa hwb x0 x1 n0 n1 hc
end Go.Proofs.Ytlgdaegaahnkbaa.Tm

namespace Go.Proofs.Ytlgdaegaahnkbaa.fnCronAlike
open Go.ChangeShapes Go.WideShapes Go.ChangeAt Go.RowKit Go.Joins Go.Deep
open Go.ChangeMaps (open_string shut_string)
set_option linter.unusedVariables false
theorem own : ownKnob Try.prog.godebug = none := by kernel_rfl
theorem laidOut : laidOutB Try.prog = true := by kernel_rfl

/-- An argument that is a struct of one-cell fields: its cells, each field's own reading. -/
theorem open_aggs {H : Type} {enc : TypeId × Value → H} {P : Program} {w : World} {base : Nat} {spare : Nat → Bool} {held : Bool} {r : Reach} {b0 : Nat} {t : TypeId} {fs : Array Field} {v : Value} {d : DataW H} {p : List MemPlace}
    (hs : P.underlying t = some (.struct fs)) (hone : oneCellFields P fs = true) (hC : P.cellsOf t = fs.size) (hv : Value.okWide P w r b0 t v) (h : DataW.Trod enc P w base spare held t v d p) :
    ∃ (cs : List Value) (ys : List (DataW H × List MemPlace)) (n : Nat), v = .agg cs.toArray ∧ cs.length = fs.size ∧ p = ys.flatMap (·.2) ∧ ys.length = fs.size ∧
      ∀ (j : Nat) (f : Field) (c : Value) (y : DataW H × List MemPlace), fs[j]? = some f → cs[j]? = some c → ys[j]? = some y → DataW.trod enc P w base spare held n f.type [c] = some y := by
  obtain ⟨cs, rfl, hsz⟩ := okWide_struct hs hv
  obtain ⟨fuel, hf⟩ := h
  obtain ⟨ys, n, _, hx, _, hlen, hg⟩ := DataW.trod_struct hs hf
  simp only [Prod.mk.injEq] at hx
  refine ⟨cs.toList, ys, n, by simp, by simpa using hsz.trans hC, hx.2, hlen, fun j f c y hj hc hy => ?_⟩
  obtain ⟨o, k⟩ := hone_of hone j f hj
  have h1 := hg j f hj
  rw [o, k, hy] at h1
  have hl := (List.getElem?_eq_some_iff.1 hc).1
  have hce := (List.getElem?_eq_some_iff.1 hc).2
  have e : (cs.toList.drop j).take 1 = [c] := by
    rw [List.drop_eq_getElem_cons hl, hce]
    rfl
  simpa [Value.cells, e] using h1
set_option maxRecDepth 100000 in
theorem openT24 {H : Type} {enc : TypeId × Value → H} {w : World} {base : Nat} {spare : Nat → Bool} {held : Bool} {r : Reach} {b0 : Nat} {v : Value} {d : DataW H} {p : List MemPlace}
    (hv : Value.okWide Try.prog w r b0 24 v) (h : DataW.Trod enc Try.prog w base spare held 24 v d p) :
    ∃ (a0 : Bool) (a1 : Int) (a2 : Int) (a3 : Int) (a4 : Int) (a5 : Int) (a6 : Int) (a7 : Int), v = .agg #[.bool a0, .int .i64 a1, .int .u64 a2, .int .u64 a3, .int .u64 a4, .int .u64 a5, .int .u64 a6, .int .u64 a7] ∧ p = [] ∧ (Lit.int .i64 a1).wf = true ∧ (Lit.int .u64 a2).wf = true ∧ (Lit.int .u64 a3).wf = true ∧ (Lit.int .u64 a4).wf = true ∧ (Lit.int .u64 a5).wf = true ∧ (Lit.int .u64 a6).wf = true ∧ (Lit.int .u64 a7).wf = true := by
  obtain ⟨cs, ys, n, rfl, hl, rfl, hl2, hf⟩ := open_aggs Try.underlying24 (by kernel_rfl) (by kernel_rfl) hv h
  match cs, hl, ys, hl2 with
  | [c0, c1, c2, c3, c4, c5, c6, c7], _, [y0, y1, y2, y3, y4, y5, y6, y7], _ =>
    have h0 := hf 0 _ c0 y0 rfl rfl rfl
    obtain ⟨a0, e0, q0⟩ := DataW.trod_bool Try.underlying4 h0
    obtain rfl : c0 = .bool a0 := by simpa using e0
    have h1 := hf 1 _ c1 y1 rfl rfl rfl
    obtain ⟨a1, e1, q1, w1⟩ := DataW.trod_int Try.underlying2 h1
    obtain rfl : c1 = .int .i64 a1 := by simpa using e1
    have h2 := hf 2 _ c2 y2 rfl rfl rfl
    obtain ⟨a2, e2, q2, w2⟩ := DataW.trod_int Try.underlying22 h2
    obtain rfl : c2 = .int .u64 a2 := by simpa using e2
    have h3 := hf 3 _ c3 y3 rfl rfl rfl
    obtain ⟨a3, e3, q3, w3⟩ := DataW.trod_int Try.underlying22 h3
    obtain rfl : c3 = .int .u64 a3 := by simpa using e3
    have h4 := hf 4 _ c4 y4 rfl rfl rfl
    obtain ⟨a4, e4, q4, w4⟩ := DataW.trod_int Try.underlying22 h4
    obtain rfl : c4 = .int .u64 a4 := by simpa using e4
    have h5 := hf 5 _ c5 y5 rfl rfl rfl
    obtain ⟨a5, e5, q5, w5⟩ := DataW.trod_int Try.underlying22 h5
    obtain rfl : c5 = .int .u64 a5 := by simpa using e5
    have h6 := hf 6 _ c6 y6 rfl rfl rfl
    obtain ⟨a6, e6, q6, w6⟩ := DataW.trod_int Try.underlying22 h6
    obtain rfl : c6 = .int .u64 a6 := by simpa using e6
    have h7 := hf 7 _ c7 y7 rfl rfl rfl
    obtain ⟨a7, e7, q7, w7⟩ := DataW.trod_int Try.underlying22 h7
    obtain rfl : c7 = .int .u64 a7 := by simpa using e7
    refine ⟨a0, a1, a2, a3, a4, a5, a6, a7, rfl, ?_, w1, w2, w3, w4, w5, w6, w7⟩
    simp [q0, q1, q2, q3, q4, q5, q6, q7]
set_option maxRecDepth 100000 in
theorem openT26 {H : Type} {enc : TypeId × Value → H} {w : World} {base : Nat} {spare : Nat → Bool} {held : Bool} {r : Reach} {b0 : Nat} {v : Value} {d : DataW H} {p : List MemPlace}
    (hv : Value.okWide Try.prog w r b0 26 v) (h : DataW.Trod enc Try.prog w base spare held 26 v d p) :
    ∃ (a0 : Int) (a1 : Int), v = .agg #[.int .i64 a0, .int .i64 a1] ∧ p = [] ∧ (Lit.int .i64 a0).wf = true ∧ (Lit.int .i64 a1).wf = true := by
  obtain ⟨cs, ys, n, rfl, hl, rfl, hl2, hf⟩ := open_aggs Try.underlying26 (by kernel_rfl) (by kernel_rfl) hv h
  match cs, hl, ys, hl2 with
  | [c0, c1], _, [y0, y1], _ =>
    have h0 := hf 0 _ c0 y0 rfl rfl rfl
    obtain ⟨a0, e0, q0, w0⟩ := DataW.trod_int Try.underlying2 h0
    obtain rfl : c0 = .int .i64 a0 := by simpa using e0
    have h1 := hf 1 _ c1 y1 rfl rfl rfl
    obtain ⟨a1, e1, q1, w1⟩ := DataW.trod_int Try.underlying3 h1
    obtain rfl : c1 = .int .i64 a1 := by simpa using e1
    refine ⟨a0, a1, rfl, ?_, w0, w1⟩
    simp [q0, q1]
set_option maxRecDepth 100000 in
theorem lifted (os : Os) (started : os.Started) (H : Type) (enc : TypeId × Value → H) :
    ReturnsInHanded {} Try.checked os 8 .any (Rows.fnCronAlikeSpec.pre6 enc Try.prog Try.f8 Rows.fnCronAlikeRow.domain false) (Rows.fnCronAlikeSpec.post enc Try.prog Try.f8 false true false false) := by
  refine returnsInHanded_of_change_sized (C := Try.checked) own started (by kernel_rfl) Try.func8
    (ChangeSpec.witness6 (enc := enc) (C := Try.checked) false ⟨#[], #[.agg #[.bool false, .int .i64 0, .int .u64 0, .int .u64 0, .int .u64 0, .int .u64 0, .int .u64 0, .int .u64 0], .agg #[.bool false, .int .i64 0, .int .u64 0, .int .u64 0, .int .u64 0, .int .u64 0, .int .u64 0, .int .u64 0], .agg #[.int .i64 0, .int .i64 0]], []⟩ 8 (by kernel_rfl) (by kernel_rfl) (by kernel_rfl) (by kernel_rfl)) ?_
  intro W base args ds gs before hval0 hW hcnd hsz0 _
  have hsz : (DataW.weightsEach Try.prog (Try.f8.params.toList ++ Rows.fnCronAlikeSpec.plain.varTypes Try.prog) (ds ++ gs)).all (· ≤ reachBytes) = true := hsz0
  have hval : ∀ (j : Nat) t v, Try.f8.params[j]? = some t → args[j]? = some v → Value.okWide Try.prog W .any base t v := hval0
  have hW' := hW
  obtain ⟨p, q, hA0, hV, rfl, hfz, hnd⟩ := hW
  have hA : DataW.TrodAll enc Try.prog W 0 (fun _ => true) true Try.f8.params.toList args.toList ds p := hA0
  rw [Try.params8] at hA hval hsz
  obtain ⟨v0, vs0, d0, ds0, p0, q0, hargs, rfl, rfl, h0, r0⟩ := trodAll_cons hA
  obtain ⟨v1, vs1, d1, ds1, p1, q1, rfl, rfl, rfl, h1, r1⟩ := trodAll_cons r0
  obtain ⟨v2, vs2, d2, ds2, p2, q2, rfl, rfl, rfl, h2, r2⟩ := trodAll_cons r1
  obtain ⟨rfl, rfl, rfl⟩ := trodAll_nil r2
  obtain rfl : args = #[v0, v1, v2] := by cases args; simp_all
  obtain ⟨rfl, rfl⟩ := trodVars_none hV
  have k0 := h0
  obtain ⟨a0_0, a0_1, a0_2, a0_3, a0_4, a0_5, a0_6, a0_7, rfl, rfl, w0_1, w0_2, w0_3, w0_4, w0_5, w0_6, w0_7⟩ := openT24 (hval 0 24 v0 rfl rfl) h0
  have k1 := h1
  obtain ⟨a1_0, a1_1, a1_2, a1_3, a1_4, a1_5, a1_6, a1_7, rfl, rfl, w1_1, w1_2, w1_3, w1_4, w1_5, w1_6, w1_7⟩ := openT24 (hval 1 24 v1 rfl rfl) h1
  have k2 := h2
  obtain ⟨a2_0, a2_1, rfl, rfl, w2_0, w2_1⟩ := openT26 (hval 2 26 v2 rfl rfl) h2
  clear hA0 hval0 hsz0 hsz
  refine (Go.Proofs.Ytlgdaegaahnkbaa.Tm.law_walk a0_0 a0_1 a0_2 a0_3 a0_4 a0_5 a0_6 a0_7 a1_0 a1_1 a1_2 a1_3 a1_4 a1_5 a1_6 a1_7 a2_0 a2_1 W w0_1 w0_2 w0_3 w0_4 w0_5 w0_6 w0_7 w1_1 w1_2 w1_3 w1_4 w1_5 w1_6 w1_7 w2_0 w2_1).mono fun e W' ⟨he, bel⟩ => ?_
  subst he
  exact ⟨_, rfl, _, _, _, [], _, [], hW', trodAll_mk1 (shut_bool Try.underlying4 _), (trodAll_cons_mk (Below.trod laidOut (by kernel_rfl) (of_decide_eq_true (by kernel_rfl)) k0 bel (fun x hx => by simp at hx)) (trodAll_cons_mk (Below.trod laidOut (by kernel_rfl) (of_decide_eq_true (by kernel_rfl)) k1 bel (fun x hx => by simp at hx)) (trodAll_cons_mk (Below.trod laidOut (by kernel_rfl) (of_decide_eq_true (by kernel_rfl)) k2 bel (fun x hx => by simp at hx)) trodAll_mk0))), rfl, bel.frame _, fun h => by cases h⟩
theorem over : Rows.fnCronAlikeRow.holds Try.pinned (OpenSpec.ofChange Rows.fnCronAlikeSpec) :=
  OpenClaim.holds_of_wide 8 Try.f8 rfl rfl rfl rfl rfl rfl rfl ⟨rfl, rfl, rfl, rfl, rfl⟩ rfl rfl rfl rfl rfl (by kernel_rfl) Try.func8 (by kernel_rfl)
    (of_decide_eq_true (by kernel_rfl)) (by unfold Func.isWrapper; first | (rw [if_pos (by decide +kernel)]; kernel_rfl) | (rw [if_neg (by decide +kernel)]; exact ⟨rfl, rfl⟩))
    (fun os started H enc _ => lifted os started H enc)
theorem proved : Rows.FnCronAlikeSaid := over
end Go.Proofs.Ytlgdaegaahnkbaa.fnCronAlike
namespace Go.Proofs.Ytlgdaegaahnkbaa
/-- The row, under a short name, for the claim. -/
theorem fnCronAlike_holds : Rows.FnCronAlikeSaid := fnCronAlike.proved
#print axioms fnCronAlike_holds
end Go.Proofs.Ytlgdaegaahnkbaa
