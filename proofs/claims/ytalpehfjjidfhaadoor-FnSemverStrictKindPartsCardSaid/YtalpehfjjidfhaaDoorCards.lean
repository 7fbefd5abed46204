/-
  DERIVED. GIVEN WITH THE SEED: THE CARDS: each row of YtalpehfjjidfhaaDoorRows.lean that lists a variable, with what it lists TIED to the program's text (the seventh form; the later family's looks); each row that meets fmt, with fmt's text TOLD by the authors' own Lean function (tested against real Go, not proved from fmt's source: count such statements apart). THE CARD IS WHAT COUNTS. Prove the row's statement (the work); the ties are given (YtalpehfjjidfhaaDoorTie.lean); close each card by the builder's one call (the guide's Derived/Test/ToyasCard.lean, 'card_holds'). Laid BY PROGRAM, IN A SANDBOX (cutbox-door.mjs). By AI agents, Wed Nov 11 2026. No macro, syntax, notation, axiom, sorry.
-/
import Derived.Test.YtalpehfjjidfhaaDoorRows
import GoSem.ClaimSeven
namespace Go.Proofs.YtalpehfjjidfhaaDoor
namespace Rows

/-- THE TIED CARD OF 'laws.FnSemverPreKindJoin'. -/
def fnSemverPreKindJoinCard : Claim7 := { stood := { row := fnSemverPreKindJoinRow, standIns := [], harness := (true, "687afd419214b23aa8ae3fa9a9b29354224e0283e4623a16da96a68fa394918b"), looks := true }, kinds := [], alts := [], laidByText := true, laidKinds := [.sentinel, .sentinel, .sentinel, .sentinel, .sentinel, .sentinel, .sentinel, .sentinel, .sentinel], laidTests := true, laidLooks := .later }
def FnSemverPreKindJoinCardSaid : Prop := Claim7.holds Tryd.pinned (.plain (OpenSpec.ofChange fnSemverPreKindJoinSpec)) fnSemverPreKindJoinCard

/-- THE TIED CARD OF 'laws.FnSemverPreHead'. -/
def fnSemverPreHeadCard : Claim7 := { stood := { row := fnSemverPreHeadRow, standIns := [], harness := (true, "687afd419214b23aa8ae3fa9a9b29354224e0283e4623a16da96a68fa394918b"), looks := true }, kinds := [], alts := [], laidByText := true, laidKinds := [.data, .data, .data, .sentinel, .sentinel], laidTests := true, laidLooks := .later }
def FnSemverPreHeadCardSaid : Prop := Claim7.holds Tryd.pinned (.plain (OpenSpec.ofChange fnSemverPreHeadSpec)) fnSemverPreHeadCard

/-- THE TIED CARD OF 'laws.FnSemverOrder'. -/
def fnSemverOrderCard : Claim7 := { stood := { row := fnSemverOrderRow, standIns := [], harness := (true, "687afd419214b23aa8ae3fa9a9b29354224e0283e4623a16da96a68fa394918b"), looks := true }, kinds := [], alts := [], laidByText := true, laidKinds := [.data, .data, .data, .sentinel, .sentinel], laidTests := true, laidLooks := .later }
def FnSemverOrderCardSaid : Prop := Claim7.holds Tryd.pinned (.plain (OpenSpec.ofChange fnSemverOrderSpec)) fnSemverOrderCard

/-- THE TIED CARD OF 'laws.FnSemverPreNumbers'. -/
def fnSemverPreNumbersCard : Claim7 := { stood := { row := fnSemverPreNumbersRow, standIns := [], harness := (true, "687afd419214b23aa8ae3fa9a9b29354224e0283e4623a16da96a68fa394918b"), looks := true }, kinds := [], alts := [], laidByText := true, laidKinds := [.data, .data, .data, .sentinel, .sentinel], laidTests := true, laidLooks := .later }
def FnSemverPreNumbersCardSaid : Prop := Claim7.holds Tryd.pinned (.plain (OpenSpec.ofChange fnSemverPreNumbersSpec)) fnSemverPreNumbersCard

/-- THE TIED CARD OF 'laws.FnSemverStrictLonger'. -/
def fnSemverStrictLongerCard : Claim7 := { stood := { row := fnSemverStrictLongerRow, standIns := [], harness := (true, "687afd419214b23aa8ae3fa9a9b29354224e0283e4623a16da96a68fa394918b"), looks := true }, kinds := [], alts := [], laidByText := true, laidKinds := [.data, .data, .data, .sentinel, .sentinel, .sentinel, .sentinel, .sentinel, .sentinel, .sentinel, .sentinel, .sentinel], laidTests := true, laidLooks := .later }
def FnSemverStrictLongerCardSaid : Prop := Claim7.holds Tryd.pinned (.plain (OpenSpec.ofChange fnSemverStrictLongerSpec)) fnSemverStrictLongerCard

/-- THE TIED CARD OF 'laws.FnSemverStrictReads'. -/
def fnSemverStrictReadsCard : Claim7 := { stood := { row := fnSemverStrictReadsRow, standIns := [], harness := (true, "687afd419214b23aa8ae3fa9a9b29354224e0283e4623a16da96a68fa394918b"), looks := true }, kinds := [], alts := [], laidByText := true, laidKinds := [.data, .data, .data, .sentinel, .sentinel, .sentinel, .sentinel, .sentinel, .sentinel, .sentinel, .sentinel, .sentinel], laidTests := true, laidLooks := .later }
def FnSemverStrictReadsCardSaid : Prop := Claim7.holds Tryd.pinned (.plain (OpenSpec.ofChange fnSemverStrictReadsSpec)) fnSemverStrictReadsCard

/-- THE TIED CARD OF 'laws.FnSemverLeastHolds'. -/
def fnSemverLeastHoldsCard : Claim7 := { stood := { row := fnSemverLeastHoldsRow, standIns := [], harness := (true, "687afd419214b23aa8ae3fa9a9b29354224e0283e4623a16da96a68fa394918b"), looks := true }, kinds := [], alts := [], laidByText := true, laidKinds := [.data, .data, .data, .sentinel, .sentinel], laidTests := true, laidLooks := .later }
def FnSemverLeastHoldsCardSaid : Prop := Claim7.holds Tryd.pinned (.plain (OpenSpec.ofChange fnSemverLeastHoldsSpec)) fnSemverLeastHoldsCard

/-- THE TIED CARD OF 'laws.FnSemverLeastCompares'. -/
def fnSemverLeastComparesCard : Claim7 := { stood := { row := fnSemverLeastComparesRow, standIns := [], harness := (true, "687afd419214b23aa8ae3fa9a9b29354224e0283e4623a16da96a68fa394918b"), looks := true }, kinds := [], alts := [], laidByText := true, laidKinds := [.data, .data, .data, .sentinel, .sentinel], laidTests := true, laidLooks := .later }
def FnSemverLeastComparesCardSaid : Prop := Claim7.holds Tryd.pinned (.plain (OpenSpec.ofChange fnSemverLeastComparesSpec)) fnSemverLeastComparesCard

/-- THE TIED CARD OF 'laws.FnSemverStrictKindParts'. -/
def fnSemverStrictKindPartsCard : Claim7 := { stood := { row := fnSemverStrictKindPartsRow, standIns := [], harness := (true, "687afd419214b23aa8ae3fa9a9b29354224e0283e4623a16da96a68fa394918b"), looks := true }, kinds := [], alts := [], laidByText := true, laidKinds := [.data, .data, .data, .sentinel, .sentinel, .sentinel, .sentinel, .sentinel, .sentinel, .sentinel, .sentinel, .sentinel, .sentinel, .sentinel], laidTests := true, laidLooks := .later }
def FnSemverStrictKindPartsCardSaid : Prop := Claim7.holds Tryd.pinned (.plain (OpenSpec.ofChange fnSemverStrictKindPartsSpec)) fnSemverStrictKindPartsCard

/-- THE TIED CARD OF 'laws.FnSemverSetPrints'. -/
def fnSemverSetPrintsCard : Claim7 := { stood := { row := fnSemverSetPrintsRow, standIns := [], harness := (true, "687afd419214b23aa8ae3fa9a9b29354224e0283e4623a16da96a68fa394918b"), looks := true }, kinds := [], alts := [], laidByText := true, laidKinds := [.data, .data, .data, .sentinel, .sentinel, .sentinel, .sentinel, .sentinel, .sentinel, .sentinel, .sentinel, .sentinel], laidTests := true, laidLooks := .later }
def FnSemverSetPrintsCardSaid : Prop := Claim7.holds Tryd.pinned (.plain (OpenSpec.ofChange fnSemverSetPrintsSpec)) fnSemverSetPrintsCard

/-- THE TIED CARD OF 'laws.FnSemverEqualWild'. -/
def fnSemverEqualWildCard : Claim7 := { stood := { row := fnSemverEqualWildRow, standIns := [], harness := (true, "687afd419214b23aa8ae3fa9a9b29354224e0283e4623a16da96a68fa394918b"), looks := true }, kinds := [], alts := [], laidByText := true, laidKinds := [.data, .data, .data, .sentinel, .sentinel], laidTests := true, laidLooks := .later }
def FnSemverEqualWildCardSaid : Prop := Claim7.holds Tryd.pinned (.plain (OpenSpec.ofChange fnSemverEqualWildSpec)) fnSemverEqualWildCard

/-- THE TIED CARD OF 'laws.FnSemverIncSteps'. -/
def fnSemverIncStepsCard : Claim7 := { stood := { row := fnSemverIncStepsRow, standIns := [], harness := (true, "687afd419214b23aa8ae3fa9a9b29354224e0283e4623a16da96a68fa394918b"), looks := true }, kinds := [], alts := [], laidByText := true, laidKinds := [.data, .data, .data, .sentinel, .sentinel], laidTests := true, laidLooks := .later }
def FnSemverIncStepsCardSaid : Prop := Claim7.holds Tryd.pinned (.plain (OpenSpec.ofChange fnSemverIncStepsSpec)) fnSemverIncStepsCard

/-- THE TIED CARD OF 'laws.FnSemverTermCaretTilde'. -/
def fnSemverTermCaretTildeCard : Claim7 := { stood := { row := fnSemverTermCaretTildeRow, standIns := [], harness := (true, "687afd419214b23aa8ae3fa9a9b29354224e0283e4623a16da96a68fa394918b"), looks := true }, kinds := [], alts := [], laidByText := true, laidKinds := [.data, .data, .data, .sentinel, .sentinel], laidTests := true, laidLooks := .later }
def FnSemverTermCaretTildeCardSaid : Prop := Claim7.holds Tryd.pinned (.plain (OpenSpec.ofChange fnSemverTermCaretTildeSpec)) fnSemverTermCaretTildeCard

/-- THE TIED CARD OF 'laws.FnSemverTermDown'. -/
def fnSemverTermDownCard : Claim7 := { stood := { row := fnSemverTermDownRow, standIns := [], harness := (true, "687afd419214b23aa8ae3fa9a9b29354224e0283e4623a16da96a68fa394918b"), looks := true }, kinds := [], alts := [], laidByText := true, laidKinds := [.data, .data, .data, .sentinel, .sentinel], laidTests := true, laidLooks := .later }
def FnSemverTermDownCardSaid : Prop := Claim7.holds Tryd.pinned (.plain (OpenSpec.ofChange fnSemverTermDownSpec)) fnSemverTermDownCard

/-- THE TIED CARD OF 'laws.FnSemverComplement'. -/
def fnSemverComplementCard : Claim7 := { stood := { row := fnSemverComplementRow, standIns := [], harness := (true, "687afd419214b23aa8ae3fa9a9b29354224e0283e4623a16da96a68fa394918b"), looks := true }, kinds := [], alts := [], laidByText := true, laidKinds := [.data, .data, .data, .sentinel, .sentinel], laidTests := true, laidLooks := .later }
def FnSemverComplementCardSaid : Prop := Claim7.holds Tryd.pinned (.plain (OpenSpec.ofChange fnSemverComplementSpec)) fnSemverComplementCard

/-- THE TIED CARD OF 'laws.FnSemverLanding'. -/
def fnSemverLandingCard : Claim7 := { stood := { row := fnSemverLandingRow, standIns := [], harness := (true, "687afd419214b23aa8ae3fa9a9b29354224e0283e4623a16da96a68fa394918b"), looks := true }, kinds := [], alts := [], laidByText := true, laidKinds := [.data, .data, .data, .sentinel, .sentinel], laidTests := true, laidLooks := .later }
def FnSemverLandingCardSaid : Prop := Claim7.holds Tryd.pinned (.plain (OpenSpec.ofChange fnSemverLandingSpec)) fnSemverLandingCard

/-- THE TIED CARD OF 'laws.FnSemverTermsHoldPre'. -/
def fnSemverTermsHoldPreCard : Claim7 := { stood := { row := fnSemverTermsHoldPreRow, standIns := [], harness := (true, "687afd419214b23aa8ae3fa9a9b29354224e0283e4623a16da96a68fa394918b"), looks := true }, kinds := [], alts := [], laidByText := true, laidKinds := [.data, .data, .data, .sentinel, .sentinel], laidTests := true, laidLooks := .later }
def FnSemverTermsHoldPreCardSaid : Prop := Claim7.holds Tryd.pinned (.plain (OpenSpec.ofChange fnSemverTermsHoldPreSpec)) fnSemverTermsHoldPreCard

/-- THE TIED CARD OF 'laws.FnSemverTermsTurned'. -/
def fnSemverTermsTurnedCard : Claim7 := { stood := { row := fnSemverTermsTurnedRow, standIns := [], harness := (true, "687afd419214b23aa8ae3fa9a9b29354224e0283e4623a16da96a68fa394918b"), looks := true }, kinds := [], alts := [], laidByText := true, laidKinds := [.data, .data, .data, .sentinel, .sentinel], laidTests := true, laidLooks := .later }
def FnSemverTermsTurnedCardSaid : Prop := Claim7.holds Tryd.pinned (.plain (OpenSpec.ofChange fnSemverTermsTurnedSpec)) fnSemverTermsTurnedCard

/-- THE SECOND FORM's CARD OF 'laws.FnSemverPreKindJoin'. -/
def fnSemverPreKindJoinUptoCard : Claim7 := { stood := { row := fnSemverPreKindJoinUptoRow, standIns := [], harness := (true, "687afd419214b23aa8ae3fa9a9b29354224e0283e4623a16da96a68fa394918b"), looks := true }, kinds := [], alts := [], laidByText := true, laidKinds := [.sentinel, .sentinel, .sentinel, .sentinel, .sentinel, .sentinel, .sentinel, .sentinel, .sentinel], laidTests := true, laidLooks := .later }
def FnSemverPreKindJoinUptoCardSaid : Prop := Claim7.holds Tryd.pinned (.plain (OpenSpec.upto fnSemverPreKindJoinSpec)) fnSemverPreKindJoinUptoCard

/-- THE SECOND FORM's CARD OF 'laws.FnSemverPreHead'. -/
def fnSemverPreHeadUptoCard : Claim7 := { stood := { row := fnSemverPreHeadUptoRow, standIns := [], harness := (true, "687afd419214b23aa8ae3fa9a9b29354224e0283e4623a16da96a68fa394918b"), looks := true }, kinds := [], alts := [], laidByText := true, laidKinds := [.data, .data, .data, .sentinel, .sentinel], laidTests := true, laidLooks := .later }
def FnSemverPreHeadUptoCardSaid : Prop := Claim7.holds Tryd.pinned (.plain (OpenSpec.upto fnSemverPreHeadSpec)) fnSemverPreHeadUptoCard

/-- THE SECOND FORM's CARD OF 'laws.FnSemverOrder'. -/
def fnSemverOrderUptoCard : Claim7 := { stood := { row := fnSemverOrderUptoRow, standIns := [], harness := (true, "687afd419214b23aa8ae3fa9a9b29354224e0283e4623a16da96a68fa394918b"), looks := true }, kinds := [], alts := [], laidByText := true, laidKinds := [.data, .data, .data, .sentinel, .sentinel], laidTests := true, laidLooks := .later }
def FnSemverOrderUptoCardSaid : Prop := Claim7.holds Tryd.pinned (.plain (OpenSpec.upto fnSemverOrderSpec)) fnSemverOrderUptoCard

/-- THE SECOND FORM's CARD OF 'laws.FnSemverPreNumbers'. -/
def fnSemverPreNumbersUptoCard : Claim7 := { stood := { row := fnSemverPreNumbersUptoRow, standIns := [], harness := (true, "687afd419214b23aa8ae3fa9a9b29354224e0283e4623a16da96a68fa394918b"), looks := true }, kinds := [], alts := [], laidByText := true, laidKinds := [.data, .data, .data, .sentinel, .sentinel], laidTests := true, laidLooks := .later }
def FnSemverPreNumbersUptoCardSaid : Prop := Claim7.holds Tryd.pinned (.plain (OpenSpec.upto fnSemverPreNumbersSpec)) fnSemverPreNumbersUptoCard

/-- THE SECOND FORM's CARD OF 'laws.FnSemverStrictLonger'. -/
def fnSemverStrictLongerUptoCard : Claim7 := { stood := { row := fnSemverStrictLongerUptoRow, standIns := [], harness := (true, "687afd419214b23aa8ae3fa9a9b29354224e0283e4623a16da96a68fa394918b"), looks := true }, kinds := [], alts := [], laidByText := true, laidKinds := [.data, .data, .data, .sentinel, .sentinel, .sentinel, .sentinel, .sentinel, .sentinel, .sentinel, .sentinel, .sentinel], laidTests := true, laidLooks := .later }
def FnSemverStrictLongerUptoCardSaid : Prop := Claim7.holds Tryd.pinned (.plain (OpenSpec.upto fnSemverStrictLongerSpec)) fnSemverStrictLongerUptoCard

/-- THE SECOND FORM's CARD OF 'laws.FnSemverStrictReads'. -/
def fnSemverStrictReadsUptoCard : Claim7 := { stood := { row := fnSemverStrictReadsUptoRow, standIns := [], harness := (true, "687afd419214b23aa8ae3fa9a9b29354224e0283e4623a16da96a68fa394918b"), looks := true }, kinds := [], alts := [], laidByText := true, laidKinds := [.data, .data, .data, .sentinel, .sentinel, .sentinel, .sentinel, .sentinel, .sentinel, .sentinel, .sentinel, .sentinel], laidTests := true, laidLooks := .later }
def FnSemverStrictReadsUptoCardSaid : Prop := Claim7.holds Tryd.pinned (.plain (OpenSpec.upto fnSemverStrictReadsSpec)) fnSemverStrictReadsUptoCard

/-- THE SECOND FORM's CARD OF 'laws.FnSemverLeastHolds'. -/
def fnSemverLeastHoldsUptoCard : Claim7 := { stood := { row := fnSemverLeastHoldsUptoRow, standIns := [], harness := (true, "687afd419214b23aa8ae3fa9a9b29354224e0283e4623a16da96a68fa394918b"), looks := true }, kinds := [], alts := [], laidByText := true, laidKinds := [.data, .data, .data, .sentinel, .sentinel], laidTests := true, laidLooks := .later }
def FnSemverLeastHoldsUptoCardSaid : Prop := Claim7.holds Tryd.pinned (.plain (OpenSpec.upto fnSemverLeastHoldsSpec)) fnSemverLeastHoldsUptoCard

/-- THE SECOND FORM's CARD OF 'laws.FnSemverLeastCompares'. -/
def fnSemverLeastComparesUptoCard : Claim7 := { stood := { row := fnSemverLeastComparesUptoRow, standIns := [], harness := (true, "687afd419214b23aa8ae3fa9a9b29354224e0283e4623a16da96a68fa394918b"), looks := true }, kinds := [], alts := [], laidByText := true, laidKinds := [.data, .data, .data, .sentinel, .sentinel], laidTests := true, laidLooks := .later }
def FnSemverLeastComparesUptoCardSaid : Prop := Claim7.holds Tryd.pinned (.plain (OpenSpec.upto fnSemverLeastComparesSpec)) fnSemverLeastComparesUptoCard

/-- THE SECOND FORM's CARD OF 'laws.FnSemverStrictKindParts'. -/
def fnSemverStrictKindPartsUptoCard : Claim7 := { stood := { row := fnSemverStrictKindPartsUptoRow, standIns := [], harness := (true, "687afd419214b23aa8ae3fa9a9b29354224e0283e4623a16da96a68fa394918b"), looks := true }, kinds := [], alts := [], laidByText := true, laidKinds := [.data, .data, .data, .sentinel, .sentinel, .sentinel, .sentinel, .sentinel, .sentinel, .sentinel, .sentinel, .sentinel, .sentinel, .sentinel], laidTests := true, laidLooks := .later }
def FnSemverStrictKindPartsUptoCardSaid : Prop := Claim7.holds Tryd.pinned (.plain (OpenSpec.upto fnSemverStrictKindPartsSpec)) fnSemverStrictKindPartsUptoCard

/-- THE SECOND FORM's CARD OF 'laws.FnSemverSetPrints'. -/
def fnSemverSetPrintsUptoCard : Claim7 := { stood := { row := fnSemverSetPrintsUptoRow, standIns := [], harness := (true, "687afd419214b23aa8ae3fa9a9b29354224e0283e4623a16da96a68fa394918b"), looks := true }, kinds := [], alts := [], laidByText := true, laidKinds := [.data, .data, .data, .sentinel, .sentinel, .sentinel, .sentinel, .sentinel, .sentinel, .sentinel, .sentinel, .sentinel], laidTests := true, laidLooks := .later }
def FnSemverSetPrintsUptoCardSaid : Prop := Claim7.holds Tryd.pinned (.plain (OpenSpec.upto fnSemverSetPrintsSpec)) fnSemverSetPrintsUptoCard

/-- THE SECOND FORM's CARD OF 'laws.FnSemverEqualWild'. -/
def fnSemverEqualWildUptoCard : Claim7 := { stood := { row := fnSemverEqualWildUptoRow, standIns := [], harness := (true, "687afd419214b23aa8ae3fa9a9b29354224e0283e4623a16da96a68fa394918b"), looks := true }, kinds := [], alts := [], laidByText := true, laidKinds := [.data, .data, .data, .sentinel, .sentinel], laidTests := true, laidLooks := .later }
def FnSemverEqualWildUptoCardSaid : Prop := Claim7.holds Tryd.pinned (.plain (OpenSpec.upto fnSemverEqualWildSpec)) fnSemverEqualWildUptoCard

/-- THE SECOND FORM's CARD OF 'laws.FnSemverIncSteps'. -/
def fnSemverIncStepsUptoCard : Claim7 := { stood := { row := fnSemverIncStepsUptoRow, standIns := [], harness := (true, "687afd419214b23aa8ae3fa9a9b29354224e0283e4623a16da96a68fa394918b"), looks := true }, kinds := [], alts := [], laidByText := true, laidKinds := [.data, .data, .data, .sentinel, .sentinel], laidTests := true, laidLooks := .later }
def FnSemverIncStepsUptoCardSaid : Prop := Claim7.holds Tryd.pinned (.plain (OpenSpec.upto fnSemverIncStepsSpec)) fnSemverIncStepsUptoCard

/-- THE SECOND FORM's CARD OF 'laws.FnSemverTermCaretTilde'. -/
def fnSemverTermCaretTildeUptoCard : Claim7 := { stood := { row := fnSemverTermCaretTildeUptoRow, standIns := [], harness := (true, "687afd419214b23aa8ae3fa9a9b29354224e0283e4623a16da96a68fa394918b"), looks := true }, kinds := [], alts := [], laidByText := true, laidKinds := [.data, .data, .data, .sentinel, .sentinel], laidTests := true, laidLooks := .later }
def FnSemverTermCaretTildeUptoCardSaid : Prop := Claim7.holds Tryd.pinned (.plain (OpenSpec.upto fnSemverTermCaretTildeSpec)) fnSemverTermCaretTildeUptoCard

/-- THE SECOND FORM's CARD OF 'laws.FnSemverTermDown'. -/
def fnSemverTermDownUptoCard : Claim7 := { stood := { row := fnSemverTermDownUptoRow, standIns := [], harness := (true, "687afd419214b23aa8ae3fa9a9b29354224e0283e4623a16da96a68fa394918b"), looks := true }, kinds := [], alts := [], laidByText := true, laidKinds := [.data, .data, .data, .sentinel, .sentinel], laidTests := true, laidLooks := .later }
def FnSemverTermDownUptoCardSaid : Prop := Claim7.holds Tryd.pinned (.plain (OpenSpec.upto fnSemverTermDownSpec)) fnSemverTermDownUptoCard

/-- THE SECOND FORM's CARD OF 'laws.FnSemverComplement'. -/
def fnSemverComplementUptoCard : Claim7 := { stood := { row := fnSemverComplementUptoRow, standIns := [], harness := (true, "687afd419214b23aa8ae3fa9a9b29354224e0283e4623a16da96a68fa394918b"), looks := true }, kinds := [], alts := [], laidByText := true, laidKinds := [.data, .data, .data, .sentinel, .sentinel], laidTests := true, laidLooks := .later }
def FnSemverComplementUptoCardSaid : Prop := Claim7.holds Tryd.pinned (.plain (OpenSpec.upto fnSemverComplementSpec)) fnSemverComplementUptoCard

/-- THE SECOND FORM's CARD OF 'laws.FnSemverLanding'. -/
def fnSemverLandingUptoCard : Claim7 := { stood := { row := fnSemverLandingUptoRow, standIns := [], harness := (true, "687afd419214b23aa8ae3fa9a9b29354224e0283e4623a16da96a68fa394918b"), looks := true }, kinds := [], alts := [], laidByText := true, laidKinds := [.data, .data, .data, .sentinel, .sentinel], laidTests := true, laidLooks := .later }
def FnSemverLandingUptoCardSaid : Prop := Claim7.holds Tryd.pinned (.plain (OpenSpec.upto fnSemverLandingSpec)) fnSemverLandingUptoCard

/-- THE SECOND FORM's CARD OF 'laws.FnSemverTermsHoldPre'. -/
def fnSemverTermsHoldPreUptoCard : Claim7 := { stood := { row := fnSemverTermsHoldPreUptoRow, standIns := [], harness := (true, "687afd419214b23aa8ae3fa9a9b29354224e0283e4623a16da96a68fa394918b"), looks := true }, kinds := [], alts := [], laidByText := true, laidKinds := [.data, .data, .data, .sentinel, .sentinel], laidTests := true, laidLooks := .later }
def FnSemverTermsHoldPreUptoCardSaid : Prop := Claim7.holds Tryd.pinned (.plain (OpenSpec.upto fnSemverTermsHoldPreSpec)) fnSemverTermsHoldPreUptoCard

/-- THE SECOND FORM's CARD OF 'laws.FnSemverTermsTurned'. -/
def fnSemverTermsTurnedUptoCard : Claim7 := { stood := { row := fnSemverTermsTurnedUptoRow, standIns := [], harness := (true, "687afd419214b23aa8ae3fa9a9b29354224e0283e4623a16da96a68fa394918b"), looks := true }, kinds := [], alts := [], laidByText := true, laidKinds := [.data, .data, .data, .sentinel, .sentinel], laidTests := true, laidLooks := .later }
def FnSemverTermsTurnedUptoCardSaid : Prop := Claim7.holds Tryd.pinned (.plain (OpenSpec.upto fnSemverTermsTurnedSpec)) fnSemverTermsTurnedUptoCard
end Rows
end Go.Proofs.YtalpehfjjidfhaaDoor
