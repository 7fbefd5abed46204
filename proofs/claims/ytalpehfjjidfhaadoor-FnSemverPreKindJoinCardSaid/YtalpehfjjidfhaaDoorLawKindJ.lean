/- What is proved: FnSemverPreKindJoin at every input, as the card says it. No further condition. -/
import Derived.Test.YtalpehfjjidfhaaDoorKindJ
import Derived.Test.YtalpehfjjidfhaaDoorLaidK
import Derived.Test.YtalpehfjjidfhaaDoorLaid

namespace Go.Proofs.YtalpehfjjidfhaaDoor.fnSemverPreKindJoin
open Go.ChangeShapes Go.WideShapes Go.ChangeAt Go.RowKit Go.Joins Go.Deep
open Go.ChangeMaps (open_string shut_string)
set_option linter.unusedVariables false
theorem own : ownKnob Tryd.prog.godebug = none := by kernel_rfl
theorem laidOut : laidOutB Tryd.prog = true := by kernel_rfl
/-- The door's own heap meets the condition. -/
theorem door_met (os : Os) (args : Array Value) : laidMetH Tryd.prog Rows.fnSemverPreKindJoinRow.laid ((World.doorLaid Tryd.prog 240 os).forCall (fun _ _ => 0) ⟨#[], args, []⟩).memory :=
  by rw [MakeChecks.laidMetH_plain _ _ _ (by kernel_rfl)]; exact laidMet_of_run' 8 (by kernel_rfl) (by kernel_rfl)
set_option maxRecDepth 100000 in
theorem lifted (os : Os) (started : os.Started) (H : Type) (enc : TypeId × Value → H) :
    ReturnsInHanded {} Tryd.checked os 3 .any (fun w args => (Rows.fnSemverPreKindJoinSpec.pre enc Tryd.prog Tryd.f3 Rows.fnSemverPreKindJoinRow.domain false w args ∧ laidMetH Tryd.prog Rows.fnSemverPreKindJoinRow.laid w) ∧ sizedMet enc Tryd.prog Tryd.f3 (OpenSpec.ofChange Rows.fnSemverPreKindJoinSpec) false w args) (Rows.fnSemverPreKindJoinSpec.post enc Tryd.prog Tryd.f3 false true false false) := by
  refine returnsInHanded_of_change_and (C := Tryd.checked) (X := fun w _ => laidMetH Tryd.prog Rows.fnSemverPreKindJoinRow.laid w) (fun _ _ _ hh h => h.of_heap hh) own started (by kernel_rfl) Tryd.func3
    (ChangeSpec.witness_shaped (enc := enc) (C := Tryd.checked) (os := os) (X := fun w _ => laidMetH Tryd.prog Rows.fnSemverPreKindJoinRow.laid w) false (World.doorLaid Tryd.prog 240 os) #[.string ByteArray.empty, .string ByteArray.empty] 8 rfl (World.shaped_of_RefB (by kernel_rfl) (by kernel_rfl)) (by kernel_rfl) (by kernel_rfl) (by kernel_rfl) (door_met os _)) ?_
  intro W base args ds gs before hval0 hW hcnd hsz0 hL _
  have hsz : (DataW.weightsEach Tryd.prog (Tryd.f3.params.toList ++ Rows.fnSemverPreKindJoinSpec.plain.varTypes Tryd.prog) (ds ++ gs)).all (· ≤ reachBytes) = true := hsz0
  have hval : ∀ (j : Nat) t v, Tryd.f3.params[j]? = some t → args[j]? = some v → Value.okWide Tryd.prog W .any base t v := hval0
  have hW' := hW
  obtain ⟨p, q, hA0, hV, rfl, hfz, hnd⟩ := hW
  have hA : DataW.TrodAll enc Tryd.prog W 0 (fun _ => true) true Tryd.f3.params.toList args.toList ds p := hA0
  rw [Tryd.params3] at hA hval hsz
  obtain ⟨v0, vs0, d0, ds0, p0, q0, hargs, rfl, rfl, h0, r0⟩ := trodAll_cons hA
  obtain ⟨v1, vs1, d1, ds1, p1, q1, rfl, rfl, rfl, h1, r1⟩ := trodAll_cons r0
  obtain ⟨rfl, rfl, rfl⟩ := trodAll_nil r1
  obtain rfl : args = #[v0, v1] := by cases args; simp_all
  obtain ⟨rfl, rfl⟩ := trodVars_none hV
  obtain ⟨a0, rfl, rfl, rfl, y0⟩ := open_string Tryd.underlying9 (hval 0 9 v0 rfl rfl) h0
  have w0 : a0.size ≤ 140737488351232 := by
    have z := sized_string hsz (j := 0) (t := 9) rfl rfl
    rw [Array.length_toList] at z
    exact z
  obtain ⟨a1, rfl, rfl, rfl, y1⟩ := open_string Tryd.underlying9 (hval 1 9 v1 rfl rfl) h1
  have w1 : a1.size ≤ 140737488351232 := by
    have z := sized_string hsz (j := 1) (t := 9) rfl rfl
    rw [Array.length_toList] at z
    exact z
  rw [MakeChecks.laidMetH_plain _ _ _ (by kernel_rfl)] at hL
  have hG : Is.GlK W := LK.glK_of hL
  clear hA0 hval0 hsz0 hsz
  refine (MK.laws_FnSemverPreKindJoin.walk MK.preKindJoin a0 a1 W hG w0 w1).mono fun e W' ⟨he, bel⟩ => ?_
  subst he
  exact ⟨_, rfl, _, _, _, [], _, [], hW', trodAll_mk1 (shut_bool Tryd.underlying4 _), (trodAll_cons_mk (shut_string Tryd.underlying9 y0) (trodAll_cons_mk (shut_string Tryd.underlying9 y1) trodAll_mk0)), rfl, bel.frame _, fun h => by cases h⟩
theorem fact_inPlace : (Rows.fnSemverPreKindJoinRow.inPlace == Tryd.pinned.checked.prog.inPlace 3) = true := by kernel_rfl
theorem fact_unfollowed : (Rows.fnSemverPreKindJoinRow.unfollowed == Tryd.pinned.checked.prog.unfollowed 3) = true := by kernel_rfl
theorem fact_recurses : (Rows.fnSemverPreKindJoinRow.recurses == Tryd.pinned.checked.prog.recurses 3) = true := by kernel_rfl
theorem fact_named : (Rows.fnSemverPreKindJoinRow.named == Tryd.pinned.checked.prog.varsNamed 3) = true := by kernel_rfl
theorem closed : joinedFacts Tryd.pinned.checked.prog 3 Tryd.f3 Rows.fnSemverPreKindJoinSpec Rows.fnSemverPreKindJoinRow = true := by
  unfold joinedFacts
  rw [fact_inPlace, fact_unfollowed, fact_recurses, fact_named, seat_laidOut, seat_mapsRowed, seat_stops, seat_stopKnobs, seat_stopsHeard, seat_mayEnter]
  rw [show (Rows.fnSemverPreKindJoinRow.plainKeys == Tryd.pinned.checked.prog.plainKeys) = true from seat_plainKeys, seat_lifted, seat_make]
  kernel_rfl
theorem named_fn : Tryd.pinned.checked.prog.funcNamed Rows.fnSemverPreKindJoinRow.func = some 3 := by kernel_rfl
theorem over : Rows.fnSemverPreKindJoinRow.holds Tryd.pinned (OpenSpec.ofChange Rows.fnSemverPreKindJoinSpec) :=
  OpenClaim.holds_of_wide 3 Tryd.f3 rfl rfl rfl rfl rfl rfl rfl ⟨rfl, rfl, rfl, rfl, rfl⟩ rfl rfl rfl rfl rfl named_fn Tryd.func3 closed
    (of_decide_eq_true (by kernel_rfl)) (by unfold Func.isWrapper; first | (rw [if_pos (by decide +kernel)]; kernel_rfl) | (rw [if_neg (by decide +kernel)]; exact ⟨rfl, rfl⟩))
    (fun os started H enc _ => lifted os started H enc)
theorem by_text : Rows.fnSemverPreKindJoinRow.wfByText (OpenSpec.ofChange Rows.fnSemverPreKindJoinSpec) = true := by kernel_rfl
theorem main_is : Tryd.pinned.checked.prog.mainIs = some (true, ("687afd419214b23aa8ae3fa9a9b29354224e0283e4623a16da96a68fa394918b" : String).toList) := by kernel_rfl
theorem goes : false = Rows.fnSemverPreKindJoinRow.goesBy Tryd.pinned.checked.prog := by kernel_rfl
theorem carded : Rows.FnSemverPreKindJoinCardSaid :=
  Claim7.holds_tied_plain_at .later [] [.sentinel, .sentinel, .sentinel, .sentinel, .sentinel, .sentinel, .sentinel, .sentinel, .sentinel] true (true, "687afd419214b23aa8ae3fa9a9b29354224e0283e4623a16da96a68fa394918b") true
    over (fun _ h => by cases h) by_text (fun _ h => by cases h) fnSemverPreKindJoin_row_tie rfl ⟨rfl, rfl⟩ main_is rfl
    (fun f fn hf hfn => by
      obtain rfl : f = 3 := Option.some.inj (named_fn.symm.trans hf) |>.symm
      obtain rfl : fn = Tryd.f3 := (Option.some.inj (Tryd.func3.symm.trans hfn)).symm
      exact ⟨seat_looks, fun j t ht => by
        rw [Tryd.params3] at ht
        have hall : ∀ t ∈ #[9, 9].toList, Tryd.prog.wantsStandIn t = false := by
          intro t ht
          simp only [List.mem_cons, List.not_mem_nil, or_false] at ht
          rcases ht with rfl | rfl <;> kernel_rfl
        exact hall t (Array.mem_toList_iff.2 (Array.mem_of_getElem? ht))⟩)
    goes
end Go.Proofs.YtalpehfjjidfhaaDoor.fnSemverPreKindJoin
namespace Go.Proofs.YtalpehfjjidfhaaDoor
/-- The card, under a short name, for the claim. -/
theorem fnSemverPreKindJoin_holds : Rows.FnSemverPreKindJoinCardSaid := fnSemverPreKindJoin.carded
#print axioms fnSemverPreKindJoin_holds
end Go.Proofs.YtalpehfjjidfhaaDoor
