/- What is proved: FnSemverIncSteps at every input, as the card says it. No further condition. -/
import Derived.Test.YtalpehfjjidfhaaDoorIncT
import Derived.Test.YtalpehfjjidfhaaDoorLaidT
import Derived.Test.YtalpehfjjidfhaaDoorLaid

namespace Go.Proofs.YtalpehfjjidfhaaDoor.fnSemverIncSteps
open Go.ChangeShapes Go.WideShapes Go.ChangeAt Go.RowKit Go.Joins Go.Deep
open Go.ChangeMaps (open_string shut_string)
set_option linter.unusedVariables false
theorem own : ownKnob Tryd.prog.godebug = none := by kernel_rfl
theorem laidOut : laidOutB Tryd.prog = true := by kernel_rfl
/-- The door's own heap meets the condition. -/
theorem door_met (os : Os) (args : Array Value) : laidMetH Tryd.prog Rows.fnSemverIncStepsRow.laid ((World.doorLaid Tryd.prog 240 os).forCall (fun _ _ => 0) ⟨#[], args, []⟩).memory :=
  by rw [MakeChecks.laidMetH_plain _ _ _ (by kernel_rfl)]; exact laidMet_of_run' 8 (by kernel_rfl) (by kernel_rfl)

/-- An argument that is a struct of one-cell fields: its cells, each field's own reading. -/
theorem open_aggs {H : Type} {enc : TypeId × Value → H} {P : Program} {w : World} {base : Nat} {spare : Nat → Bool} {held : Bool} {r : Reach} {b0 : Nat} {t : TypeId} {fs : Array Field} {v : Value} {d : DataW H} {p : List MemPlace}
    (hs : P.underlying t = some (.struct fs)) (hone : oneCellFields P fs = true) (hC : P.cellsOf t = fs.size) (hv : Value.okWide P w r b0 t v) (h : DataW.Trod enc P w base spare held t v d p) :
    ∃ (cs : List Value) (ys : List (DataW H × List MemPlace)) (n : Nat), v = .agg cs.toArray ∧ cs.length = fs.size ∧ p = ys.flatMap (·.2) ∧ ys.length = fs.size ∧
      ∀ (j : Nat) (f : Field) (c : Value) (y : DataW H × List MemPlace), fs[j]? = some f → cs[j]? = some c → ys[j]? = some y → DataW.trod enc P w base spare held n f.type [c] = some y := by
  obtain ⟨cs, rfl, hsz⟩ := okWide_struct hs hv
  obtain ⟨fuel, hf⟩ := h
  obtain ⟨ys, n, _, hx, _, hlen, hg⟩ := DataW.trod_struct hs hf
  simp only [Prod.mk.injEq] at hx
  refine ⟨cs.toList, ys, n, by simp, by simpa using hsz.trans hC, hx.2, hlen, fun j f c y hj hc hy => ?_⟩
  obtain ⟨o, k⟩ := hone_of hone j f hj
  have h1 := hg j f hj
  rw [o, k, hy] at h1
  have hl := (List.getElem?_eq_some_iff.1 hc).1
  have hce := (List.getElem?_eq_some_iff.1 hc).2
  have e : (cs.toList.drop j).take 1 = [c] := by
    rw [List.drop_eq_getElem_cons hl, hce]
    rfl
  simpa [Value.cells, e] using h1
set_option maxRecDepth 100000 in
theorem openT29 {H : Type} {enc : TypeId × Value → H} {w : World} {base : Nat} {spare : Nat → Bool} {held : Bool} {r : Reach} {b0 : Nat} {v : Value} {d : DataW H} {p : List MemPlace}
    (hv : Value.okWide Tryd.prog w r b0 29 v) (h : DataW.Trod enc Tryd.prog w base spare held 29 v d p) :
    ∃ (a0 : Int) (a1 : Int) (a2 : Int) (a3 : ByteArray) (a4 : ByteArray), v = .agg #[.int .u64 a0, .int .u64 a1, .int .u64 a2, .string a3, .string a4] ∧ p = [] ∧ (Lit.int .u64 a0).wf = true ∧ (Lit.int .u64 a1).wf = true ∧ (Lit.int .u64 a2).wf = true ∧ a3.size ≤ maxLen ∧ a4.size ≤ maxLen := by
  obtain ⟨cs, ys, n, rfl, hl, rfl, hl2, hf⟩ := open_aggs Tryd.underlying29 (by kernel_rfl) (by kernel_rfl) hv h
  match cs, hl, ys, hl2 with
  | [c0, c1, c2, c3, c4], _, [y0, y1, y2, y3, y4], _ =>
    have h0 := hf 0 _ c0 y0 rfl rfl rfl
    obtain ⟨a0, e0, q0, w0⟩ := DataW.trod_int Tryd.underlying27 h0
    obtain rfl : c0 = .int .u64 a0 := by simpa using e0
    have h1 := hf 1 _ c1 y1 rfl rfl rfl
    obtain ⟨a1, e1, q1, w1⟩ := DataW.trod_int Tryd.underlying27 h1
    obtain rfl : c1 = .int .u64 a1 := by simpa using e1
    have h2 := hf 2 _ c2 y2 rfl rfl rfl
    obtain ⟨a2, e2, q2, w2⟩ := DataW.trod_int Tryd.underlying27 h2
    obtain rfl : c2 = .int .u64 a2 := by simpa using e2
    have h3 := hf 3 _ c3 y3 rfl rfl rfl
    obtain ⟨a3, e3, q3, w3⟩ := DataW.trod_string Tryd.underlying9 h3
    obtain rfl : c3 = .string a3 := by simpa using e3
    have h4 := hf 4 _ c4 y4 rfl rfl rfl
    obtain ⟨a4, e4, q4, w4⟩ := DataW.trod_string Tryd.underlying9 h4
    obtain rfl : c4 = .string a4 := by simpa using e4
    refine ⟨a0, a1, a2, a3, a4, rfl, ?_, w0, w1, w2, w3, w4⟩
    simp [q0, q1, q2, q3, q4]
set_option maxRecDepth 100000 in
theorem lifted (os : Os) (started : os.Started) (H : Type) (enc : TypeId × Value → H) :
    ReturnsInHanded {} Tryd.checked os 14 .any (fun w args => (Rows.fnSemverIncStepsSpec.pre enc Tryd.prog Tryd.f14 Rows.fnSemverIncStepsRow.domain false w args ∧ laidMetH Tryd.prog Rows.fnSemverIncStepsRow.laid w) ∧ sizedMet enc Tryd.prog Tryd.f14 (OpenSpec.ofChange Rows.fnSemverIncStepsSpec) false w args) (Rows.fnSemverIncStepsSpec.post enc Tryd.prog Tryd.f14 false true false false) := by
  refine returnsInHanded_of_change_and (C := Tryd.checked) (X := fun w _ => laidMetH Tryd.prog Rows.fnSemverIncStepsRow.laid w) (fun _ _ _ hh h => h.of_heap hh) own started (by kernel_rfl) Tryd.func14
    (ChangeSpec.witness_shaped (enc := enc) (C := Tryd.checked) (os := os) (X := fun w _ => laidMetH Tryd.prog Rows.fnSemverIncStepsRow.laid w) false (World.doorLaid Tryd.prog 240 os) #[.agg #[.int .u64 0, .int .u64 0, .int .u64 0, .string ByteArray.empty, .string ByteArray.empty]] 8 rfl (World.shaped_of_RefB (by kernel_rfl) (by kernel_rfl)) (by kernel_rfl) (by kernel_rfl) (by kernel_rfl) (door_met os _)) ?_
  intro W base args ds gs before hval0 hW hcnd hsz0 hL _
  have hsz : (DataW.weightsEach Tryd.prog (Tryd.f14.params.toList ++ Rows.fnSemverIncStepsSpec.plain.varTypes Tryd.prog) (ds ++ gs)).all (· ≤ reachBytes) = true := hsz0
  have hval : ∀ (j : Nat) t v, Tryd.f14.params[j]? = some t → args[j]? = some v → Value.okWide Tryd.prog W .any base t v := hval0
  have hW' := hW
  obtain ⟨p, q, hA0, hV, rfl, hfz, hnd⟩ := hW
  have hA : DataW.TrodAll enc Tryd.prog W 0 (fun _ => true) true Tryd.f14.params.toList args.toList ds p := hA0
  rw [Tryd.params14] at hA hval hsz
  obtain ⟨v0, vs0, d0, ds0, p0, q0, hargs, rfl, rfl, h0, r0⟩ := trodAll_cons hA
  obtain ⟨rfl, rfl, rfl⟩ := trodAll_nil r0
  obtain rfl : args = #[v0] := by cases args; simp_all
  obtain ⟨rfl, rfl⟩ := trodVars_none hV
  have k0 := h0
  obtain ⟨a0_0, a0_1, a0_2, a0_3, a0_4, rfl, rfl, w0_0, w0_1, w0_2, w0_3, w0_4⟩ := openT29 (hval 0 29 v0 rfl rfl) h0
  rw [MakeChecks.laidMetH_plain _ _ _ (by kernel_rfl)] at hL
  have hG : HandS.GlI W := ⟨gl_of_two hL.tail.tail.tail, tab_of hL.tail.tail⟩
  clear hA0 hval0 hsz0 hsz
  refine (MJ.incSteps_walk a0_0 a0_1 a0_2 a0_3 a0_4 W hG w0_0 w0_1 w0_2 w0_3 w0_4).mono fun e W' ⟨he, bel⟩ => ?_
  subst he
  exact ⟨_, rfl, _, _, _, [], _, [], hW', trodAll_mk1 (shut_bool Tryd.underlying4 _), (trodAll_cons_mk (Below.trod laidOut (by kernel_rfl) (of_decide_eq_true (by kernel_rfl)) k0 bel (fun x hx => by simp at hx)) trodAll_mk0), rfl, bel.frame _, fun h => by cases h⟩
theorem fact_inPlace : (Rows.fnSemverIncStepsRow.inPlace == Tryd.pinned.checked.prog.inPlace 14) = true := by kernel_rfl
theorem fact_unfollowed : (Rows.fnSemverIncStepsRow.unfollowed == Tryd.pinned.checked.prog.unfollowed 14) = true := by kernel_rfl
theorem fact_recurses : (Rows.fnSemverIncStepsRow.recurses == Tryd.pinned.checked.prog.recurses 14) = true := by kernel_rfl
theorem fact_named : (Rows.fnSemverIncStepsRow.named == Tryd.pinned.checked.prog.varsNamed 14) = true := by kernel_rfl
theorem closed : joinedFacts Tryd.pinned.checked.prog 14 Tryd.f14 Rows.fnSemverIncStepsSpec Rows.fnSemverIncStepsRow = true := by
  unfold joinedFacts
  rw [fact_inPlace, fact_unfollowed, fact_recurses, fact_named, seat_laidOut, seat_mapsRowed, seat_stops, seat_stopKnobs, seat_stopsHeard, seat_mayEnter]
  rw [show (Rows.fnSemverIncStepsRow.plainKeys == Tryd.pinned.checked.prog.plainKeys) = true from seat_plainKeys, seat_lifted, seat_make]
  kernel_rfl
theorem named_fn : Tryd.pinned.checked.prog.funcNamed Rows.fnSemverIncStepsRow.func = some 14 := by kernel_rfl
theorem over : Rows.fnSemverIncStepsRow.holds Tryd.pinned (OpenSpec.ofChange Rows.fnSemverIncStepsSpec) :=
  OpenClaim.holds_of_wide 14 Tryd.f14 rfl rfl rfl rfl rfl rfl rfl ⟨rfl, rfl, rfl, rfl, rfl⟩ rfl rfl rfl rfl rfl named_fn Tryd.func14 closed
    (of_decide_eq_true (by kernel_rfl)) (by unfold Func.isWrapper; first | (rw [if_pos (by decide +kernel)]; kernel_rfl) | (rw [if_neg (by decide +kernel)]; exact ⟨rfl, rfl⟩))
    (fun os started H enc _ => lifted os started H enc)
theorem by_text : Rows.fnSemverIncStepsRow.wfByText (OpenSpec.ofChange Rows.fnSemverIncStepsSpec) = true := by kernel_rfl
theorem main_is : Tryd.pinned.checked.prog.mainIs = some (true, ("687afd419214b23aa8ae3fa9a9b29354224e0283e4623a16da96a68fa394918b" : String).toList) := by kernel_rfl
theorem goes : false = Rows.fnSemverIncStepsRow.goesBy Tryd.pinned.checked.prog := by kernel_rfl
theorem carded : Rows.FnSemverIncStepsCardSaid :=
  Claim7.holds_tied_plain_at .later [] [.data, .data, .data, .sentinel, .sentinel] true (true, "687afd419214b23aa8ae3fa9a9b29354224e0283e4623a16da96a68fa394918b") true
    over (fun _ h => by cases h) by_text (fun _ h => by cases h) fnSemverIncSteps_row_tie rfl ⟨rfl, rfl⟩ main_is rfl
    (fun f fn hf hfn => by
      obtain rfl : f = 14 := Option.some.inj (named_fn.symm.trans hf) |>.symm
      obtain rfl : fn = Tryd.f14 := (Option.some.inj (Tryd.func14.symm.trans hfn)).symm
      exact ⟨seat_looks, fun j t ht => by
        rw [Tryd.params14] at ht
        have hall : ∀ t ∈ #[29].toList, Tryd.prog.wantsStandIn t = false := by
          intro t ht
          simp only [List.mem_cons, List.not_mem_nil, or_false] at ht
          subst ht; kernel_rfl
        exact hall t (Array.mem_toList_iff.2 (Array.mem_of_getElem? ht))⟩)
    goes
end Go.Proofs.YtalpehfjjidfhaaDoor.fnSemverIncSteps
namespace Go.Proofs.YtalpehfjjidfhaaDoor
/-- The card, under a short name, for the claim. -/
theorem fnSemverIncSteps_holds : Rows.FnSemverIncStepsCardSaid := fnSemverIncSteps.carded
#print axioms fnSemverIncSteps_holds
end Go.Proofs.YtalpehfjjidfhaaDoor
