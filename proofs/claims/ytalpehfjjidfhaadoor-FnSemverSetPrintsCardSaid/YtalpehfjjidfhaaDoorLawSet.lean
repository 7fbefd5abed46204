/- What is proved: FnSemverSetPrints at every input, as the card says it. No further condition. -/
import Derived.Test.YtalpehfjjidfhaaDoorSetT
import Derived.Test.YtalpehfjjidfhaaDoorLaidT
import Derived.Test.YtalpehfjjidfhaaDoorLaid

namespace Go.Proofs.YtalpehfjjidfhaaDoor.fnSemverSetPrints
open Go.ChangeShapes Go.WideShapes Go.ChangeAt Go.RowKit Go.Joins Go.Deep
open Go.ChangeMaps (open_string shut_string)
set_option linter.unusedVariables false
theorem own : ownKnob Tryd.prog.godebug = none := by kernel_rfl
theorem laidOut : laidOutB Tryd.prog = true := by kernel_rfl
/-- The door's own heap meets the condition. -/
theorem door_met (os : Os) (args : Array Value) : laidMetH Tryd.prog Rows.fnSemverSetPrintsRow.laid ((World.doorLaid Tryd.prog 240 os).forCall (fun _ _ => 0) ⟨#[], args, []⟩).memory :=
  by rw [MakeChecks.laidMetH_plain _ _ _ (by kernel_rfl)]; exact laidMet_of_run' 8 (by kernel_rfl) (by kernel_rfl)

/-- An argument that is a struct of one-cell fields: its cells, each field's own reading. -/
theorem open_aggs {H : Type} {enc : TypeId × Value → H} {P : Program} {w : World} {base : Nat} {spare : Nat → Bool} {held : Bool} {r : Reach} {b0 : Nat} {t : TypeId} {fs : Array Field} {v : Value} {d : DataW H} {p : List MemPlace}
    (hs : P.underlying t = some (.struct fs)) (hone : oneCellFields P fs = true) (hC : P.cellsOf t = fs.size) (hv : Value.okWide P w r b0 t v) (h : DataW.Trod enc P w base spare held t v d p) :
    ∃ (cs : List Value) (ys : List (DataW H × List MemPlace)) (n : Nat), v = .agg cs.toArray ∧ cs.length = fs.size ∧ p = ys.flatMap (·.2) ∧ ys.length = fs.size ∧
      ∀ (j : Nat) (f : Field) (c : Value) (y : DataW H × List MemPlace), fs[j]? = some f → cs[j]? = some c → ys[j]? = some y → DataW.trod enc P w base spare held n f.type [c] = some y := by
  obtain ⟨cs, rfl, hsz⟩ := okWide_struct hs hv
  obtain ⟨fuel, hf⟩ := h
  obtain ⟨ys, n, _, hx, _, hlen, hg⟩ := DataW.trod_struct hs hf
  simp only [Prod.mk.injEq] at hx
  refine ⟨cs.toList, ys, n, by simp, by simpa using hsz.trans hC, hx.2, hlen, fun j f c y hj hc hy => ?_⟩
  obtain ⟨o, k⟩ := hone_of hone j f hj
  have h1 := hg j f hj
  rw [o, k, hy] at h1
  have hl := (List.getElem?_eq_some_iff.1 hc).1
  have hce := (List.getElem?_eq_some_iff.1 hc).2
  have e : (cs.toList.drop j).take 1 = [c] := by
    rw [List.drop_eq_getElem_cons hl, hce]
    rfl
  simpa [Value.cells, e] using h1
set_option maxRecDepth 100000 in
theorem openT29 {H : Type} {enc : TypeId × Value → H} {w : World} {base : Nat} {spare : Nat → Bool} {held : Bool} {r : Reach} {b0 : Nat} {v : Value} {d : DataW H} {p : List MemPlace}
    (hv : Value.okWide Tryd.prog w r b0 29 v) (h : DataW.Trod enc Tryd.prog w base spare held 29 v d p) :
    ∃ (a0 : Int) (a1 : Int) (a2 : Int) (a3 : ByteArray) (a4 : ByteArray), v = .agg #[.int .u64 a0, .int .u64 a1, .int .u64 a2, .string a3, .string a4] ∧ p = [] ∧ (Lit.int .u64 a0).wf = true ∧ (Lit.int .u64 a1).wf = true ∧ (Lit.int .u64 a2).wf = true ∧ a3.size ≤ maxLen ∧ a4.size ≤ maxLen := by
  obtain ⟨cs, ys, n, rfl, hl, rfl, hl2, hf⟩ := open_aggs Tryd.underlying29 (by kernel_rfl) (by kernel_rfl) hv h
  match cs, hl, ys, hl2 with
  | [c0, c1, c2, c3, c4], _, [y0, y1, y2, y3, y4], _ =>
    have h0 := hf 0 _ c0 y0 rfl rfl rfl
    obtain ⟨a0, e0, q0, w0⟩ := DataW.trod_int Tryd.underlying27 h0
    obtain rfl : c0 = .int .u64 a0 := by simpa using e0
    have h1 := hf 1 _ c1 y1 rfl rfl rfl
    obtain ⟨a1, e1, q1, w1⟩ := DataW.trod_int Tryd.underlying27 h1
    obtain rfl : c1 = .int .u64 a1 := by simpa using e1
    have h2 := hf 2 _ c2 y2 rfl rfl rfl
    obtain ⟨a2, e2, q2, w2⟩ := DataW.trod_int Tryd.underlying27 h2
    obtain rfl : c2 = .int .u64 a2 := by simpa using e2
    have h3 := hf 3 _ c3 y3 rfl rfl rfl
    obtain ⟨a3, e3, q3, w3⟩ := DataW.trod_string Tryd.underlying9 h3
    obtain rfl : c3 = .string a3 := by simpa using e3
    have h4 := hf 4 _ c4 y4 rfl rfl rfl
    obtain ⟨a4, e4, q4, w4⟩ := DataW.trod_string Tryd.underlying9 h4
    obtain rfl : c4 = .string a4 := by simpa using e4
    refine ⟨a0, a1, a2, a3, a4, rfl, ?_, w0, w1, w2, w3, w4⟩
    simp [q0, q1, q2, q3, q4]
set_option maxRecDepth 100000 in
theorem lifted (os : Os) (started : os.Started) (H : Type) (enc : TypeId × Value → H) :
    ReturnsInHanded {} Tryd.checked os 12 .any (fun w args => (Rows.fnSemverSetPrintsSpec.pre enc Tryd.prog Tryd.f12 Rows.fnSemverSetPrintsRow.domain false w args ∧ laidMetH Tryd.prog Rows.fnSemverSetPrintsRow.laid w) ∧ sizedMet enc Tryd.prog Tryd.f12 (OpenSpec.ofChange Rows.fnSemverSetPrintsSpec) false w args) (Rows.fnSemverSetPrintsSpec.post enc Tryd.prog Tryd.f12 false true false false) := by
  refine returnsInHanded_of_change_and (C := Tryd.checked) (X := fun w _ => laidMetH Tryd.prog Rows.fnSemverSetPrintsRow.laid w) (fun _ _ _ hh h => h.of_heap hh) own started (by kernel_rfl) Tryd.func12
    (ChangeSpec.witness_shaped (enc := enc) (C := Tryd.checked) (os := os) (X := fun w _ => laidMetH Tryd.prog Rows.fnSemverSetPrintsRow.laid w) false (World.doorLaid Tryd.prog 240 os) #[.agg #[.int .u64 0, .int .u64 0, .int .u64 0, .string ByteArray.empty, .string ByteArray.empty], .string ByteArray.empty, .string ByteArray.empty] 8 rfl (World.shaped_of_RefB (by kernel_rfl) (by kernel_rfl)) (by kernel_rfl) (by kernel_rfl) (by kernel_rfl) (door_met os _)) ?_
  intro W base args ds gs before hval0 hW hcnd hsz0 hL _
  have hsz : (DataW.weightsEach Tryd.prog (Tryd.f12.params.toList ++ Rows.fnSemverSetPrintsSpec.plain.varTypes Tryd.prog) (ds ++ gs)).all (· ≤ reachBytes) = true := hsz0
  have hval : ∀ (j : Nat) t v, Tryd.f12.params[j]? = some t → args[j]? = some v → Value.okWide Tryd.prog W .any base t v := hval0
  have hW' := hW
  obtain ⟨p, q, hA0, hV, rfl, hfz, hnd⟩ := hW
  have hA : DataW.TrodAll enc Tryd.prog W 0 (fun _ => true) true Tryd.f12.params.toList args.toList ds p := hA0
  rw [Tryd.params12] at hA hval hsz
  obtain ⟨v0, vs0, d0, ds0, p0, q0, hargs, rfl, rfl, h0, r0⟩ := trodAll_cons hA
  obtain ⟨v1, vs1, d1, ds1, p1, q1, rfl, rfl, rfl, h1, r1⟩ := trodAll_cons r0
  obtain ⟨v2, vs2, d2, ds2, p2, q2, rfl, rfl, rfl, h2, r2⟩ := trodAll_cons r1
  obtain ⟨rfl, rfl, rfl⟩ := trodAll_nil r2
  obtain rfl : args = #[v0, v1, v2] := by cases args; simp_all
  obtain ⟨rfl, rfl⟩ := trodVars_none hV
  have k0 := h0
  obtain ⟨a0_0, a0_1, a0_2, a0_3, a0_4, rfl, rfl, w0_0, w0_1, w0_2, w0_3, w0_4⟩ := openT29 (hval 0 29 v0 rfl rfl) h0
  obtain ⟨a1, rfl, rfl, rfl, y1⟩ := open_string Tryd.underlying9 (hval 1 9 v1 rfl rfl) h1
  have w1 : a1.size ≤ 140737488351232 := by
    have z := sized_string hsz (j := 1) (t := 9) rfl rfl
    rw [Array.length_toList] at z
    exact z
  obtain ⟨a2, rfl, rfl, rfl, y2⟩ := open_string Tryd.underlying9 (hval 2 9 v2 rfl rfl) h2
  have w2 : a2.size ≤ 140737488351232 := by
    have z := sized_string hsz (j := 2) (t := 9) rfl rfl
    rw [Array.length_toList] at z
    exact z
  rw [MakeChecks.laidMetH_plain _ _ _ (by kernel_rfl)] at hL
  have hG : HandS.GlT W := ⟨glS_of hL.tail.tail.tail, tab_of hL.tail.tail⟩
  clear hA0 hval0 hsz0 hsz
  refine (MU.setPrints_walk a0_0 a0_1 a0_2 a0_3 a0_4 a1 a2 W hG w0_0 w0_1 w0_2 w0_3 w0_4 w1 w2).mono fun e W' ⟨he, bel⟩ => ?_
  subst he
  exact ⟨_, rfl, _, _, _, [], _, [], hW', trodAll_mk1 (shut_bool Tryd.underlying4 _), (trodAll_cons_mk (Below.trod laidOut (by kernel_rfl) (of_decide_eq_true (by kernel_rfl)) k0 bel (fun x hx => by simp at hx)) (trodAll_cons_mk (shut_string Tryd.underlying9 y1) (trodAll_cons_mk (shut_string Tryd.underlying9 y2) trodAll_mk0))), rfl, bel.frame _, fun h => by cases h⟩
theorem fact_inPlace : (Rows.fnSemverSetPrintsRow.inPlace == Tryd.pinned.checked.prog.inPlace 12) = true := by kernel_rfl
theorem fact_unfollowed : (Rows.fnSemverSetPrintsRow.unfollowed == Tryd.pinned.checked.prog.unfollowed 12) = true := by kernel_rfl
theorem fact_recurses : (Rows.fnSemverSetPrintsRow.recurses == Tryd.pinned.checked.prog.recurses 12) = true := by kernel_rfl
theorem fact_named : (Rows.fnSemverSetPrintsRow.named == Tryd.pinned.checked.prog.varsNamed 12) = true := by kernel_rfl
theorem closed : joinedFacts Tryd.pinned.checked.prog 12 Tryd.f12 Rows.fnSemverSetPrintsSpec Rows.fnSemverSetPrintsRow = true := by
  unfold joinedFacts
  rw [fact_inPlace, fact_unfollowed, fact_recurses, fact_named, seat_laidOut, seat_mapsRowed, seat_stops, seat_stopKnobs, seat_stopsHeard, seat_mayEnter]
  rw [show (Rows.fnSemverSetPrintsRow.plainKeys == Tryd.pinned.checked.prog.plainKeys) = true from seat_plainKeys, seat_lifted, seat_make]
  kernel_rfl
theorem named_fn : Tryd.pinned.checked.prog.funcNamed Rows.fnSemverSetPrintsRow.func = some 12 := by kernel_rfl
theorem over : Rows.fnSemverSetPrintsRow.holds Tryd.pinned (OpenSpec.ofChange Rows.fnSemverSetPrintsSpec) :=
  OpenClaim.holds_of_wide 12 Tryd.f12 rfl rfl rfl rfl rfl rfl rfl ⟨rfl, rfl, rfl, rfl, rfl⟩ rfl rfl rfl rfl rfl named_fn Tryd.func12 closed
    (of_decide_eq_true (by kernel_rfl)) (by unfold Func.isWrapper; first | (rw [if_pos (by decide +kernel)]; kernel_rfl) | (rw [if_neg (by decide +kernel)]; exact ⟨rfl, rfl⟩))
    (fun os started H enc _ => lifted os started H enc)
theorem by_text : Rows.fnSemverSetPrintsRow.wfByText (OpenSpec.ofChange Rows.fnSemverSetPrintsSpec) = true := by kernel_rfl
theorem main_is : Tryd.pinned.checked.prog.mainIs = some (true, ("687afd419214b23aa8ae3fa9a9b29354224e0283e4623a16da96a68fa394918b" : String).toList) := by kernel_rfl
theorem goes : false = Rows.fnSemverSetPrintsRow.goesBy Tryd.pinned.checked.prog := by kernel_rfl
theorem carded : Rows.FnSemverSetPrintsCardSaid :=
  Claim7.holds_tied_plain_at .later [] [.data, .data, .data, .sentinel, .sentinel, .sentinel, .sentinel, .sentinel, .sentinel, .sentinel, .sentinel, .sentinel] true (true, "687afd419214b23aa8ae3fa9a9b29354224e0283e4623a16da96a68fa394918b") true
    over (fun _ h => by cases h) by_text (fun _ h => by cases h) fnSemverSetPrints_row_tie rfl ⟨rfl, rfl⟩ main_is rfl
    (fun f fn hf hfn => by
      obtain rfl : f = 12 := Option.some.inj (named_fn.symm.trans hf) |>.symm
      obtain rfl : fn = Tryd.f12 := (Option.some.inj (Tryd.func12.symm.trans hfn)).symm
      exact ⟨seat_looks, fun j t ht => by
        rw [Tryd.params12] at ht
        have hall : ∀ t ∈ #[29, 9, 9].toList, Tryd.prog.wantsStandIn t = false := by
          intro t ht
          simp only [List.mem_cons, List.not_mem_nil, or_false] at ht
          rcases ht with rfl | rfl | rfl <;> kernel_rfl
        exact hall t (Array.mem_toList_iff.2 (Array.mem_of_getElem? ht))⟩)
    goes
end Go.Proofs.YtalpehfjjidfhaaDoor.fnSemverSetPrints
namespace Go.Proofs.YtalpehfjjidfhaaDoor
/-- The card, under a short name, for the claim. -/
theorem fnSemverSetPrints_holds : Rows.FnSemverSetPrintsCardSaid := fnSemverSetPrints.carded
#print axioms fnSemverSetPrints_holds
end Go.Proofs.YtalpehfjjidfhaaDoor
