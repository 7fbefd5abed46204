/-
  DERIVED. GIVEN WITH THE SEED: THE PROGRAM's TIES (one call each: nine closed facts by the kernel) AND EACH ROW's TIE, after the 31st guide's Derived/Test/Toyas{Tie, Card}.lean. No idea stands in it: it is a product of the set-up. Laid BY PROGRAM, IN A SANDBOX (cutbox-door.mjs). By AI agents, Wed Nov 11 2026. No macro, syntax, notation, axiom, sorry.
-/
import Derived.Test.YtalpehfjjidfhaaDoorRows
import Derived.LaidByTextLater
import Derived.SevenTiedAt
import Derived.LaidSub
import Derived.LaidOnce
namespace Go.Proofs.YtalpehfjjidfhaaDoor
open Go
set_option maxRecDepth 100000
theorem seatTie1 : Tryd.prog.laidByTextLater [("math/bits.deBruijn32tab", Rows.laid_math_bits_deBruijn32tab), ("math/bits.deBruijn64tab", Rows.laid_math_bits_deBruijn64tab), ("internal/strconv.uint64pow10", Rows.laid_internal_strconv_uint64pow10), ("strconv.ErrRange", Rows.laid_strconv_ErrRange), ("strconv.ErrSyntax", Rows.laid_strconv_ErrSyntax), ("pub-timebook/pub/semver.ErrConstraintTooLong", Rows.laid_pub_timebook_pub_semver_ErrConstraintTooLong), ("pub-timebook/pub/semver.ErrTooManyConstraintGroups", Rows.laid_pub_timebook_pub_semver_ErrTooManyConstraintGroups), ("pub-timebook/pub/semver.ErrInvalidSemVer", Rows.laid_pub_timebook_pub_semver_ErrInvalidSemVer), ("pub-timebook/pub/semver.ErrEmptyString", Rows.laid_pub_timebook_pub_semver_ErrEmptyString), ("pub-timebook/pub/semver.ErrInvalidCharacters", Rows.laid_pub_timebook_pub_semver_ErrInvalidCharacters), ("pub-timebook/pub/semver.ErrSegmentStartsZero", Rows.laid_pub_timebook_pub_semver_ErrSegmentStartsZero), ("pub-timebook/pub/semver.ErrInvalidMetadata", Rows.laid_pub_timebook_pub_semver_ErrInvalidMetadata), ("pub-timebook/pub/semver.ErrInvalidPrerelease", Rows.laid_pub_timebook_pub_semver_ErrInvalidPrerelease), ("pub-timebook/pub/semver.ErrVersionTooLong", Rows.laid_pub_timebook_pub_semver_ErrVersionTooLong)] [.data, .data, .data, .sentinel, .sentinel, .sentinel, .sentinel, .sentinel, .sentinel, .sentinel, .sentinel, .sentinel, .sentinel, .sentinel] true :=
  Program.laidByTextLater_by_one 233 8 65 (by kernel_rfl) (by kernel_rfl) (by kernel_rfl) (by kernel_rfl) (by kernel_rfl) (by kernel_rfl) (fun _ _ => by kernel_rfl)
theorem noOwnUnsafe : Tryd.pinned.checked.prog.headLifts.contains "ownunsafe" = false := by kernel_rfl
theorem tie : Tryd.prog.laidByTextLater [("pub-timebook/pub/semver.ErrConstraintTooLong", Rows.laid_pub_timebook_pub_semver_ErrConstraintTooLong), ("pub-timebook/pub/semver.ErrTooManyConstraintGroups", Rows.laid_pub_timebook_pub_semver_ErrTooManyConstraintGroups), ("pub-timebook/pub/semver.ErrInvalidSemVer", Rows.laid_pub_timebook_pub_semver_ErrInvalidSemVer), ("pub-timebook/pub/semver.ErrEmptyString", Rows.laid_pub_timebook_pub_semver_ErrEmptyString), ("pub-timebook/pub/semver.ErrInvalidCharacters", Rows.laid_pub_timebook_pub_semver_ErrInvalidCharacters), ("pub-timebook/pub/semver.ErrSegmentStartsZero", Rows.laid_pub_timebook_pub_semver_ErrSegmentStartsZero), ("pub-timebook/pub/semver.ErrInvalidMetadata", Rows.laid_pub_timebook_pub_semver_ErrInvalidMetadata), ("pub-timebook/pub/semver.ErrInvalidPrerelease", Rows.laid_pub_timebook_pub_semver_ErrInvalidPrerelease), ("pub-timebook/pub/semver.ErrVersionTooLong", Rows.laid_pub_timebook_pub_semver_ErrVersionTooLong)] [.sentinel, .sentinel, .sentinel, .sentinel, .sentinel, .sentinel, .sentinel, .sentinel, .sentinel] true :=
  Program.laidByTextLater.sub seatTie1 ["pub-timebook/pub/semver.ErrConstraintTooLong", "pub-timebook/pub/semver.ErrTooManyConstraintGroups", "pub-timebook/pub/semver.ErrInvalidSemVer", "pub-timebook/pub/semver.ErrEmptyString", "pub-timebook/pub/semver.ErrInvalidCharacters", "pub-timebook/pub/semver.ErrSegmentStartsZero", "pub-timebook/pub/semver.ErrInvalidMetadata", "pub-timebook/pub/semver.ErrInvalidPrerelease", "pub-timebook/pub/semver.ErrVersionTooLong"] (by kernel_rfl) (by kernel_rfl)
theorem fnSemverPreKindJoin_row_tie : Rows.fnSemverPreKindJoinRow.laidByTextAt .later Tryd.pinned [.sentinel, .sentinel, .sentinel, .sentinel, .sentinel, .sentinel, .sentinel, .sentinel, .sentinel] true :=
  OpenClaim.laidByTextAt_later rfl rfl tie noOwnUnsafe
theorem tie2 : Tryd.prog.laidByTextLater [("math/bits.deBruijn32tab", Rows.laid_math_bits_deBruijn32tab), ("math/bits.deBruijn64tab", Rows.laid_math_bits_deBruijn64tab), ("internal/strconv.uint64pow10", Rows.laid_internal_strconv_uint64pow10), ("strconv.ErrRange", Rows.laid_strconv_ErrRange), ("strconv.ErrSyntax", Rows.laid_strconv_ErrSyntax)] [.data, .data, .data, .sentinel, .sentinel] true :=
  Program.laidByTextLater.sub seatTie1 ["math/bits.deBruijn32tab", "math/bits.deBruijn64tab", "internal/strconv.uint64pow10", "strconv.ErrRange", "strconv.ErrSyntax"] (by kernel_rfl) (by kernel_rfl)
theorem fnSemverPreHead_row_tie : Rows.fnSemverPreHeadRow.laidByTextAt .later Tryd.pinned [.data, .data, .data, .sentinel, .sentinel] true :=
  OpenClaim.laidByTextAt_later rfl rfl tie2 noOwnUnsafe
theorem fnSemverOrder_row_tie : Rows.fnSemverOrderRow.laidByTextAt .later Tryd.pinned [.data, .data, .data, .sentinel, .sentinel] true :=
  OpenClaim.laidByTextAt_later rfl rfl tie2 noOwnUnsafe
theorem fnSemverPreNumbers_row_tie : Rows.fnSemverPreNumbersRow.laidByTextAt .later Tryd.pinned [.data, .data, .data, .sentinel, .sentinel] true :=
  OpenClaim.laidByTextAt_later rfl rfl tie2 noOwnUnsafe
theorem fnSemverLeastHolds_row_tie : Rows.fnSemverLeastHoldsRow.laidByTextAt .later Tryd.pinned [.data, .data, .data, .sentinel, .sentinel] true :=
  OpenClaim.laidByTextAt_later rfl rfl tie2 noOwnUnsafe
theorem fnSemverLeastCompares_row_tie : Rows.fnSemverLeastComparesRow.laidByTextAt .later Tryd.pinned [.data, .data, .data, .sentinel, .sentinel] true :=
  OpenClaim.laidByTextAt_later rfl rfl tie2 noOwnUnsafe
theorem fnSemverEqualWild_row_tie : Rows.fnSemverEqualWildRow.laidByTextAt .later Tryd.pinned [.data, .data, .data, .sentinel, .sentinel] true :=
  OpenClaim.laidByTextAt_later rfl rfl tie2 noOwnUnsafe
theorem fnSemverIncSteps_row_tie : Rows.fnSemverIncStepsRow.laidByTextAt .later Tryd.pinned [.data, .data, .data, .sentinel, .sentinel] true :=
  OpenClaim.laidByTextAt_later rfl rfl tie2 noOwnUnsafe
theorem fnSemverTermCaretTilde_row_tie : Rows.fnSemverTermCaretTildeRow.laidByTextAt .later Tryd.pinned [.data, .data, .data, .sentinel, .sentinel] true :=
  OpenClaim.laidByTextAt_later rfl rfl tie2 noOwnUnsafe
theorem fnSemverTermDown_row_tie : Rows.fnSemverTermDownRow.laidByTextAt .later Tryd.pinned [.data, .data, .data, .sentinel, .sentinel] true :=
  OpenClaim.laidByTextAt_later rfl rfl tie2 noOwnUnsafe
theorem fnSemverComplement_row_tie : Rows.fnSemverComplementRow.laidByTextAt .later Tryd.pinned [.data, .data, .data, .sentinel, .sentinel] true :=
  OpenClaim.laidByTextAt_later rfl rfl tie2 noOwnUnsafe
theorem fnSemverLanding_row_tie : Rows.fnSemverLandingRow.laidByTextAt .later Tryd.pinned [.data, .data, .data, .sentinel, .sentinel] true :=
  OpenClaim.laidByTextAt_later rfl rfl tie2 noOwnUnsafe
theorem fnSemverTermsHoldPre_row_tie : Rows.fnSemverTermsHoldPreRow.laidByTextAt .later Tryd.pinned [.data, .data, .data, .sentinel, .sentinel] true :=
  OpenClaim.laidByTextAt_later rfl rfl tie2 noOwnUnsafe
theorem fnSemverTermsTurned_row_tie : Rows.fnSemverTermsTurnedRow.laidByTextAt .later Tryd.pinned [.data, .data, .data, .sentinel, .sentinel] true :=
  OpenClaim.laidByTextAt_later rfl rfl tie2 noOwnUnsafe
theorem tie3 : Tryd.prog.laidByTextLater [("math/bits.deBruijn32tab", Rows.laid_math_bits_deBruijn32tab), ("math/bits.deBruijn64tab", Rows.laid_math_bits_deBruijn64tab), ("internal/strconv.uint64pow10", Rows.laid_internal_strconv_uint64pow10), ("strconv.ErrRange", Rows.laid_strconv_ErrRange), ("strconv.ErrSyntax", Rows.laid_strconv_ErrSyntax), ("pub-timebook/pub/semver.ErrInvalidSemVer", Rows.laid_pub_timebook_pub_semver_ErrInvalidSemVer), ("pub-timebook/pub/semver.ErrEmptyString", Rows.laid_pub_timebook_pub_semver_ErrEmptyString), ("pub-timebook/pub/semver.ErrInvalidCharacters", Rows.laid_pub_timebook_pub_semver_ErrInvalidCharacters), ("pub-timebook/pub/semver.ErrSegmentStartsZero", Rows.laid_pub_timebook_pub_semver_ErrSegmentStartsZero), ("pub-timebook/pub/semver.ErrInvalidMetadata", Rows.laid_pub_timebook_pub_semver_ErrInvalidMetadata), ("pub-timebook/pub/semver.ErrInvalidPrerelease", Rows.laid_pub_timebook_pub_semver_ErrInvalidPrerelease), ("pub-timebook/pub/semver.ErrVersionTooLong", Rows.laid_pub_timebook_pub_semver_ErrVersionTooLong)] [.data, .data, .data, .sentinel, .sentinel, .sentinel, .sentinel, .sentinel, .sentinel, .sentinel, .sentinel, .sentinel] true :=
  Program.laidByTextLater.sub seatTie1 ["math/bits.deBruijn32tab", "math/bits.deBruijn64tab", "internal/strconv.uint64pow10", "strconv.ErrRange", "strconv.ErrSyntax", "pub-timebook/pub/semver.ErrInvalidSemVer", "pub-timebook/pub/semver.ErrEmptyString", "pub-timebook/pub/semver.ErrInvalidCharacters", "pub-timebook/pub/semver.ErrSegmentStartsZero", "pub-timebook/pub/semver.ErrInvalidMetadata", "pub-timebook/pub/semver.ErrInvalidPrerelease", "pub-timebook/pub/semver.ErrVersionTooLong"] (by kernel_rfl) (by kernel_rfl)
theorem fnSemverStrictLonger_row_tie : Rows.fnSemverStrictLongerRow.laidByTextAt .later Tryd.pinned [.data, .data, .data, .sentinel, .sentinel, .sentinel, .sentinel, .sentinel, .sentinel, .sentinel, .sentinel, .sentinel] true :=
  OpenClaim.laidByTextAt_later rfl rfl tie3 noOwnUnsafe
theorem fnSemverStrictReads_row_tie : Rows.fnSemverStrictReadsRow.laidByTextAt .later Tryd.pinned [.data, .data, .data, .sentinel, .sentinel, .sentinel, .sentinel, .sentinel, .sentinel, .sentinel, .sentinel, .sentinel] true :=
  OpenClaim.laidByTextAt_later rfl rfl tie3 noOwnUnsafe
theorem fnSemverSetPrints_row_tie : Rows.fnSemverSetPrintsRow.laidByTextAt .later Tryd.pinned [.data, .data, .data, .sentinel, .sentinel, .sentinel, .sentinel, .sentinel, .sentinel, .sentinel, .sentinel, .sentinel] true :=
  OpenClaim.laidByTextAt_later rfl rfl tie3 noOwnUnsafe
theorem tie4 : Tryd.prog.laidByTextLater [("math/bits.deBruijn32tab", Rows.laid_math_bits_deBruijn32tab), ("math/bits.deBruijn64tab", Rows.laid_math_bits_deBruijn64tab), ("internal/strconv.uint64pow10", Rows.laid_internal_strconv_uint64pow10), ("strconv.ErrRange", Rows.laid_strconv_ErrRange), ("strconv.ErrSyntax", Rows.laid_strconv_ErrSyntax), ("pub-timebook/pub/semver.ErrConstraintTooLong", Rows.laid_pub_timebook_pub_semver_ErrConstraintTooLong), ("pub-timebook/pub/semver.ErrTooManyConstraintGroups", Rows.laid_pub_timebook_pub_semver_ErrTooManyConstraintGroups), ("pub-timebook/pub/semver.ErrInvalidSemVer", Rows.laid_pub_timebook_pub_semver_ErrInvalidSemVer), ("pub-timebook/pub/semver.ErrEmptyString", Rows.laid_pub_timebook_pub_semver_ErrEmptyString), ("pub-timebook/pub/semver.ErrInvalidCharacters", Rows.laid_pub_timebook_pub_semver_ErrInvalidCharacters), ("pub-timebook/pub/semver.ErrSegmentStartsZero", Rows.laid_pub_timebook_pub_semver_ErrSegmentStartsZero), ("pub-timebook/pub/semver.ErrInvalidMetadata", Rows.laid_pub_timebook_pub_semver_ErrInvalidMetadata), ("pub-timebook/pub/semver.ErrInvalidPrerelease", Rows.laid_pub_timebook_pub_semver_ErrInvalidPrerelease), ("pub-timebook/pub/semver.ErrVersionTooLong", Rows.laid_pub_timebook_pub_semver_ErrVersionTooLong)] [.data, .data, .data, .sentinel, .sentinel, .sentinel, .sentinel, .sentinel, .sentinel, .sentinel, .sentinel, .sentinel, .sentinel, .sentinel] true :=
  Program.laidByTextLater.sub seatTie1 ["math/bits.deBruijn32tab", "math/bits.deBruijn64tab", "internal/strconv.uint64pow10", "strconv.ErrRange", "strconv.ErrSyntax", "pub-timebook/pub/semver.ErrConstraintTooLong", "pub-timebook/pub/semver.ErrTooManyConstraintGroups", "pub-timebook/pub/semver.ErrInvalidSemVer", "pub-timebook/pub/semver.ErrEmptyString", "pub-timebook/pub/semver.ErrInvalidCharacters", "pub-timebook/pub/semver.ErrSegmentStartsZero", "pub-timebook/pub/semver.ErrInvalidMetadata", "pub-timebook/pub/semver.ErrInvalidPrerelease", "pub-timebook/pub/semver.ErrVersionTooLong"] (by kernel_rfl) (by kernel_rfl)
theorem fnSemverStrictKindParts_row_tie : Rows.fnSemverStrictKindPartsRow.laidByTextAt .later Tryd.pinned [.data, .data, .data, .sentinel, .sentinel, .sentinel, .sentinel, .sentinel, .sentinel, .sentinel, .sentinel, .sentinel, .sentinel, .sentinel] true :=
  OpenClaim.laidByTextAt_later rfl rfl tie4 noOwnUnsafe
theorem fnSemverPreKindJoinUpto_row_tie : Rows.fnSemverPreKindJoinUptoRow.laidByTextAt .later Tryd.pinned [.sentinel, .sentinel, .sentinel, .sentinel, .sentinel, .sentinel, .sentinel, .sentinel, .sentinel] true :=
  OpenClaim.laidByTextAt_later rfl rfl tie noOwnUnsafe
theorem fnSemverPreHeadUpto_row_tie : Rows.fnSemverPreHeadUptoRow.laidByTextAt .later Tryd.pinned [.data, .data, .data, .sentinel, .sentinel] true :=
  OpenClaim.laidByTextAt_later rfl rfl tie2 noOwnUnsafe
theorem fnSemverOrderUpto_row_tie : Rows.fnSemverOrderUptoRow.laidByTextAt .later Tryd.pinned [.data, .data, .data, .sentinel, .sentinel] true :=
  OpenClaim.laidByTextAt_later rfl rfl tie2 noOwnUnsafe
theorem fnSemverPreNumbersUpto_row_tie : Rows.fnSemverPreNumbersUptoRow.laidByTextAt .later Tryd.pinned [.data, .data, .data, .sentinel, .sentinel] true :=
  OpenClaim.laidByTextAt_later rfl rfl tie2 noOwnUnsafe
theorem fnSemverStrictLongerUpto_row_tie : Rows.fnSemverStrictLongerUptoRow.laidByTextAt .later Tryd.pinned [.data, .data, .data, .sentinel, .sentinel, .sentinel, .sentinel, .sentinel, .sentinel, .sentinel, .sentinel, .sentinel] true :=
  OpenClaim.laidByTextAt_later rfl rfl tie3 noOwnUnsafe
theorem fnSemverStrictReadsUpto_row_tie : Rows.fnSemverStrictReadsUptoRow.laidByTextAt .later Tryd.pinned [.data, .data, .data, .sentinel, .sentinel, .sentinel, .sentinel, .sentinel, .sentinel, .sentinel, .sentinel, .sentinel] true :=
  OpenClaim.laidByTextAt_later rfl rfl tie3 noOwnUnsafe
theorem fnSemverLeastHoldsUpto_row_tie : Rows.fnSemverLeastHoldsUptoRow.laidByTextAt .later Tryd.pinned [.data, .data, .data, .sentinel, .sentinel] true :=
  OpenClaim.laidByTextAt_later rfl rfl tie2 noOwnUnsafe
theorem fnSemverLeastComparesUpto_row_tie : Rows.fnSemverLeastComparesUptoRow.laidByTextAt .later Tryd.pinned [.data, .data, .data, .sentinel, .sentinel] true :=
  OpenClaim.laidByTextAt_later rfl rfl tie2 noOwnUnsafe
theorem fnSemverStrictKindPartsUpto_row_tie : Rows.fnSemverStrictKindPartsUptoRow.laidByTextAt .later Tryd.pinned [.data, .data, .data, .sentinel, .sentinel, .sentinel, .sentinel, .sentinel, .sentinel, .sentinel, .sentinel, .sentinel, .sentinel, .sentinel] true :=
  OpenClaim.laidByTextAt_later rfl rfl tie4 noOwnUnsafe
theorem fnSemverSetPrintsUpto_row_tie : Rows.fnSemverSetPrintsUptoRow.laidByTextAt .later Tryd.pinned [.data, .data, .data, .sentinel, .sentinel, .sentinel, .sentinel, .sentinel, .sentinel, .sentinel, .sentinel, .sentinel] true :=
  OpenClaim.laidByTextAt_later rfl rfl tie3 noOwnUnsafe
theorem fnSemverEqualWildUpto_row_tie : Rows.fnSemverEqualWildUptoRow.laidByTextAt .later Tryd.pinned [.data, .data, .data, .sentinel, .sentinel] true :=
  OpenClaim.laidByTextAt_later rfl rfl tie2 noOwnUnsafe
theorem fnSemverIncStepsUpto_row_tie : Rows.fnSemverIncStepsUptoRow.laidByTextAt .later Tryd.pinned [.data, .data, .data, .sentinel, .sentinel] true :=
  OpenClaim.laidByTextAt_later rfl rfl tie2 noOwnUnsafe
theorem fnSemverTermCaretTildeUpto_row_tie : Rows.fnSemverTermCaretTildeUptoRow.laidByTextAt .later Tryd.pinned [.data, .data, .data, .sentinel, .sentinel] true :=
  OpenClaim.laidByTextAt_later rfl rfl tie2 noOwnUnsafe
theorem fnSemverTermDownUpto_row_tie : Rows.fnSemverTermDownUptoRow.laidByTextAt .later Tryd.pinned [.data, .data, .data, .sentinel, .sentinel] true :=
  OpenClaim.laidByTextAt_later rfl rfl tie2 noOwnUnsafe
theorem fnSemverComplementUpto_row_tie : Rows.fnSemverComplementUptoRow.laidByTextAt .later Tryd.pinned [.data, .data, .data, .sentinel, .sentinel] true :=
  OpenClaim.laidByTextAt_later rfl rfl tie2 noOwnUnsafe
theorem fnSemverLandingUpto_row_tie : Rows.fnSemverLandingUptoRow.laidByTextAt .later Tryd.pinned [.data, .data, .data, .sentinel, .sentinel] true :=
  OpenClaim.laidByTextAt_later rfl rfl tie2 noOwnUnsafe
theorem fnSemverTermsHoldPreUpto_row_tie : Rows.fnSemverTermsHoldPreUptoRow.laidByTextAt .later Tryd.pinned [.data, .data, .data, .sentinel, .sentinel] true :=
  OpenClaim.laidByTextAt_later rfl rfl tie2 noOwnUnsafe
theorem fnSemverTermsTurnedUpto_row_tie : Rows.fnSemverTermsTurnedUptoRow.laidByTextAt .later Tryd.pinned [.data, .data, .data, .sentinel, .sentinel] true :=
  OpenClaim.laidByTextAt_later rfl rfl tie2 noOwnUnsafe
end Go.Proofs.YtalpehfjjidfhaaDoor
