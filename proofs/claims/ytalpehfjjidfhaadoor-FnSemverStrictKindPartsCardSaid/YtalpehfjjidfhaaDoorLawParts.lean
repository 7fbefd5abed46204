/- What is proved: FnSemverStrictKindParts at every input, as the card says it. No further condition. -/
import Derived.Test.YtalpehfjjidfhaaDoorArr
import Derived.Test.YtalpehfjjidfhaaDoorLaidN
import Derived.Test.YtalpehfjjidfhaaDoorLaid

namespace Go.Proofs.YtalpehfjjidfhaaDoor.fnSemverStrictKindParts
open Go.ChangeShapes Go.WideShapes Go.ChangeAt Go.RowKit Go.Joins Go.Deep
open Go.ChangeMaps (open_string shut_string)
set_option linter.unusedVariables false
theorem own : ownKnob Tryd.prog.godebug = none := by kernel_rfl
theorem laidOut : laidOutB Tryd.prog = true := by kernel_rfl
/-- The door's own heap meets the condition. -/
theorem door_met (os : Os) (args : Array Value) : laidMetH Tryd.prog Rows.fnSemverStrictKindPartsRow.laid ((World.doorLaid Tryd.prog 240 os).forCall (fun _ _ => 0) ⟨#[], args, []⟩).memory :=
  by rw [MakeChecks.laidMetH_plain _ _ _ (by kernel_rfl)]; exact laidMet_of_run' 8 (by kernel_rfl) (by kernel_rfl)
set_option maxRecDepth 100000 in
theorem lifted (os : Os) (started : os.Started) (H : Type) (enc : TypeId × Value → H) :
    ReturnsInHanded {} Tryd.checked os 11 .any (fun w args => (Rows.fnSemverStrictKindPartsSpec.pre enc Tryd.prog Tryd.f11 Rows.fnSemverStrictKindPartsRow.domain false w args ∧ laidMetH Tryd.prog Rows.fnSemverStrictKindPartsRow.laid w) ∧ sizedMet enc Tryd.prog Tryd.f11 (OpenSpec.ofChange Rows.fnSemverStrictKindPartsSpec) false w args) (Rows.fnSemverStrictKindPartsSpec.post enc Tryd.prog Tryd.f11 false true false false) := by
  refine returnsInHanded_of_change_and (C := Tryd.checked) (X := fun w _ => laidMetH Tryd.prog Rows.fnSemverStrictKindPartsRow.laid w) (fun _ _ _ hh h => h.of_heap hh) own started (by kernel_rfl) Tryd.func11
    (ChangeSpec.witness_shaped (enc := enc) (C := Tryd.checked) (os := os) (X := fun w _ => laidMetH Tryd.prog Rows.fnSemverStrictKindPartsRow.laid w) false (World.doorLaid Tryd.prog 240 os) #[.agg #[.string ByteArray.empty, .string ByteArray.empty, .string ByteArray.empty], .bool false, .bool false, .string ByteArray.empty, .string ByteArray.empty] 8 rfl (World.shaped_of_RefB (by kernel_rfl) (by kernel_rfl)) (by kernel_rfl) (by kernel_rfl) (by kernel_rfl) (door_met os _)) ?_
  intro W base args ds gs before hval0 hW hcnd hsz0 hL _
  have hsz : (DataW.weightsEach Tryd.prog (Tryd.f11.params.toList ++ Rows.fnSemverStrictKindPartsSpec.plain.varTypes Tryd.prog) (ds ++ gs)).all (· ≤ reachBytes) = true := hsz0
  have hval : ∀ (j : Nat) t v, Tryd.f11.params[j]? = some t → args[j]? = some v → Value.okWide Tryd.prog W .any base t v := hval0
  have hW' := hW
  obtain ⟨p, q, hA0, hV, rfl, hfz, hnd⟩ := hW
  have hA : DataW.TrodAll enc Tryd.prog W 0 (fun _ => true) true Tryd.f11.params.toList args.toList ds p := hA0
  rw [Tryd.params11] at hA hval hsz
  obtain ⟨v0, vs0, d0, ds0, p0, q0, hargs, rfl, rfl, h0, r0⟩ := trodAll_cons hA
  obtain ⟨v1, vs1, d1, ds1, p1, q1, rfl, rfl, rfl, h1, r1⟩ := trodAll_cons r0
  obtain ⟨v2, vs2, d2, ds2, p2, q2, rfl, rfl, rfl, h2, r2⟩ := trodAll_cons r1
  obtain ⟨v3, vs3, d3, ds3, p3, q3, rfl, rfl, rfl, h3, r3⟩ := trodAll_cons r2
  obtain ⟨v4, vs4, d4, ds4, p4, q4, rfl, rfl, rfl, h4, r4⟩ := trodAll_cons r3
  obtain ⟨rfl, rfl, rfl⟩ := trodAll_nil r4
  obtain rfl : args = #[v0, v1, v2, v3, v4] := by cases args; simp_all
  obtain ⟨rfl, rfl⟩ := trodVars_none hV
  have k0 := h0
  obtain ⟨a0_0, a0_1, a0_2, rfl, rfl⟩ := openA48 (hval 0 48 v0 rfl rfl) h0
  obtain ⟨a1, rfl, rfl, rfl⟩ := open_bool Tryd.underlying4 (hval 1 4 v1 rfl rfl) h1
  obtain ⟨a2, rfl, rfl, rfl⟩ := open_bool Tryd.underlying4 (hval 2 4 v2 rfl rfl) h2
  obtain ⟨a3, rfl, rfl, rfl, y3⟩ := open_string Tryd.underlying9 (hval 3 9 v3 rfl rfl) h3
  have w3 : a3.size ≤ 140737488351232 := by
    have z := sized_string hsz (j := 3) (t := 9) rfl rfl
    rw [Array.length_toList] at z
    exact z
  obtain ⟨a4, rfl, rfl, rfl, y4⟩ := open_string Tryd.underlying9 (hval 4 9 v4 rfl rfl) h4
  have w4 : a4.size ≤ 140737488351232 := by
    have z := sized_string hsz (j := 4) (t := 9) rfl rfl
    rw [Array.length_toList] at z
    exact z
  rw [MakeChecks.laidMetH_plain _ _ _ (by kernel_rfl)] at hL
  have hG : Is.GlN W := LN.glN_of hL.tail.tail.tail
  clear hA0 hval0 hsz0 hsz
  refine ((fun n0 n1 n2 hy pl pre mt W hG _ _ => MY.kindParts_walk n0 n1 n2 hy pl pre mt W hG) a0_0 a0_1 a0_2 a1 a2 a3 a4 W hG w3 w4).mono fun e W' ⟨he, bel⟩ => ?_
  subst he
  exact ⟨_, rfl, _, _, _, [], _, [], hW', trodAll_mk1 (shut_bool Tryd.underlying4 _), (trodAll_cons_mk (Below.trod laidOut (by kernel_rfl) (of_decide_eq_true (by kernel_rfl)) k0 bel (fun x hx => by simp at hx)) (trodAll_cons_mk (shut_bool Tryd.underlying4 _) (trodAll_cons_mk (shut_bool Tryd.underlying4 _) (trodAll_cons_mk (shut_string Tryd.underlying9 y3) (trodAll_cons_mk (shut_string Tryd.underlying9 y4) trodAll_mk0))))), rfl, bel.frame _, fun h => by cases h⟩
theorem fact_inPlace : (Rows.fnSemverStrictKindPartsRow.inPlace == Tryd.pinned.checked.prog.inPlace 11) = true := by kernel_rfl
theorem fact_unfollowed : (Rows.fnSemverStrictKindPartsRow.unfollowed == Tryd.pinned.checked.prog.unfollowed 11) = true := by kernel_rfl
theorem fact_recurses : (Rows.fnSemverStrictKindPartsRow.recurses == Tryd.pinned.checked.prog.recurses 11) = true := by kernel_rfl
theorem fact_named : (Rows.fnSemverStrictKindPartsRow.named == Tryd.pinned.checked.prog.varsNamed 11) = true := by kernel_rfl
theorem closed : joinedFacts Tryd.pinned.checked.prog 11 Tryd.f11 Rows.fnSemverStrictKindPartsSpec Rows.fnSemverStrictKindPartsRow = true := by
  unfold joinedFacts
  rw [fact_inPlace, fact_unfollowed, fact_recurses, fact_named, seat_laidOut, seat_mapsRowed, seat_stops, seat_stopKnobs, seat_stopsHeard, seat_mayEnter]
  rw [show (Rows.fnSemverStrictKindPartsRow.plainKeys == Tryd.pinned.checked.prog.plainKeys) = true from seat_plainKeys, seat_lifted, seat_make]
  kernel_rfl
theorem named_fn : Tryd.pinned.checked.prog.funcNamed Rows.fnSemverStrictKindPartsRow.func = some 11 := by kernel_rfl
theorem over : Rows.fnSemverStrictKindPartsRow.holds Tryd.pinned (OpenSpec.ofChange Rows.fnSemverStrictKindPartsSpec) :=
  OpenClaim.holds_of_wide 11 Tryd.f11 rfl rfl rfl rfl rfl rfl rfl ⟨rfl, rfl, rfl, rfl, rfl⟩ rfl rfl rfl rfl rfl named_fn Tryd.func11 closed
    (of_decide_eq_true (by kernel_rfl)) (by unfold Func.isWrapper; first | (rw [if_pos (by decide +kernel)]; kernel_rfl) | (rw [if_neg (by decide +kernel)]; exact ⟨rfl, rfl⟩))
    (fun os started H enc _ => lifted os started H enc)
theorem by_text : Rows.fnSemverStrictKindPartsRow.wfByText (OpenSpec.ofChange Rows.fnSemverStrictKindPartsSpec) = true := by kernel_rfl
theorem main_is : Tryd.pinned.checked.prog.mainIs = some (true, ("687afd419214b23aa8ae3fa9a9b29354224e0283e4623a16da96a68fa394918b" : String).toList) := by kernel_rfl
theorem goes : false = Rows.fnSemverStrictKindPartsRow.goesBy Tryd.pinned.checked.prog := by kernel_rfl
theorem carded : Rows.FnSemverStrictKindPartsCardSaid :=
  Claim7.holds_tied_plain_at .later [] [.data, .data, .data, .sentinel, .sentinel, .sentinel, .sentinel, .sentinel, .sentinel, .sentinel, .sentinel, .sentinel, .sentinel, .sentinel] true (true, "687afd419214b23aa8ae3fa9a9b29354224e0283e4623a16da96a68fa394918b") true
    over (fun _ h => by cases h) by_text (fun _ h => by cases h) fnSemverStrictKindParts_row_tie rfl ⟨rfl, rfl⟩ main_is rfl
    (fun f fn hf hfn => by
      obtain rfl : f = 11 := Option.some.inj (named_fn.symm.trans hf) |>.symm
      obtain rfl : fn = Tryd.f11 := (Option.some.inj (Tryd.func11.symm.trans hfn)).symm
      exact ⟨seat_looks, fun j t ht => by
        rw [Tryd.params11] at ht
        have hall : ∀ t ∈ #[48, 4, 4, 9, 9].toList, Tryd.prog.wantsStandIn t = false := by
          intro t ht
          simp only [List.mem_cons, List.not_mem_nil, or_false] at ht
          rcases ht with rfl | rfl | rfl | rfl | rfl <;> kernel_rfl
        exact hall t (Array.mem_toList_iff.2 (Array.mem_of_getElem? ht))⟩)
    goes
end Go.Proofs.YtalpehfjjidfhaaDoor.fnSemverStrictKindParts
namespace Go.Proofs.YtalpehfjjidfhaaDoor
/-- The card, under a short name, for the claim. -/
theorem fnSemverStrictKindParts_holds : Rows.FnSemverStrictKindPartsCardSaid := fnSemverStrictKindParts.carded
#print axioms fnSemverStrictKindParts_holds
end Go.Proofs.YtalpehfjjidfhaaDoor
