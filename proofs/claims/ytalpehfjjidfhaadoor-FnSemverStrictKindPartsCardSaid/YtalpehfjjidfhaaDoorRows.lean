/-
  NARROWER THAN 'FOR EVERY INPUT', by the rows' own cells (each row's printed sentence says how): FnSemverPreKindJoin: laid · FnSemverPreHead: laid · FnSemverOrder: laid · FnSemverPreNumbers: laid · FnSemverStrictLonger: laid · FnSemverStrictReads: laid · FnSemverLeastHolds: laid · FnSemverLeastCompares: laid · FnSemverStrictKindParts: laid · FnSemverSetPrints: laid · FnSemverEqualWild: laid · FnSemverIncSteps: laid · FnSemverTermCaretTilde: laid · FnSemverTermDown: laid · FnSemverComplement: laid · FnSemverLanding: laid · FnSemverTermsHoldPre: laid · FnSemverTermsTurned: laid.
  DERIVED. THE GIVEN ROWS OF THIS SEAT. 18 by the template 'for every input the law returns true; each argument reads behind the call as it read before'; 0 by the template 'total and deterministic' (their statements: YtalpehfjjidfhaaDoorTotals.lean).
  GIVEN WITH THE SEED: the statements are not yours to turn. If you find one false, say at which input.
  Laid BY PROGRAM, IN A SANDBOX (cutbox-rows.mjs): the forced cells as the released guide's own fill.sh prints them over the translation c9ca8058d5b6ca8c… (all of the seat's roots in one cut). By AI agents, Wed Nov 11 2026. No macro, syntax, notation, axiom, sorry.
-/
import Derived.Test.YtalpehfjjidfhaaDoorChecked
import GoSem.Claim
import GoSem.ClaimJoined
import GoSem.ClaimMapViews
import Derived.JoinedTies
import Derived.KernelRfl
namespace Go.Proofs.YtalpehfjjidfhaaDoor
/- THE CELL 'sum', in the pinned program and in every row, IS THE sha256 OF THE DUMP (.gsa) THAT YtalpehfjjidfhaaDoorProg.lean LOADS. Nothing in Lean hashes anything: it is a label: what it is worth is what the hold of that sum in a sandbox is worth. -/
noncomputable def Tryd.pinned : Pinned := { name := "ytalpehfjjidfhaadoor", sum := "c9ca8058d5b6ca8ccec98046829f23801e672334b1e5bed9b94675b8d2c19cd2", checked := Tryd.checked }
namespace Rows
def none {H : Type} : Left H := { results := [], args := [] }

/- WHAT THE LISTED PACKAGE-LEVEL VARIABLES READ AS WHEN THE CALL BEGINS. Each datum BY PROGRAM (the guide's laid-datum.mjs) off the statement by which the dump's own 'gosem.cut.vars' lays the variable. In a bare row this is a premise. The card (YtalpehfjjidfhaaDoorCards.lean) ties it to the program's text. -/
def laid_pub_timebook_pub_semver_ErrConstraintTooLong {H : Type} : DataW H := .iface "*errors.errorString" (.ptr (.agg [.lit (.string [99, 111, 110, 115, 116, 114, 97, 105, 110, 116, 32, 115, 116, 114, 105, 110, 103, 32, 105, 115, 32, 116, 111, 111, 32, 108, 111, 110, 103, 32, 40, 109, 97, 120, 32, 53, 49, 50, 32, 98, 121, 116, 101, 115, 41])]))
def laid_pub_timebook_pub_semver_ErrTooManyConstraintGroups {H : Type} : DataW H := .iface "*errors.errorString" (.ptr (.agg [.lit (.string [116, 111, 111, 32, 109, 97, 110, 121, 32, 99, 111, 110, 115, 116, 114, 97, 105, 110, 116, 32, 103, 114, 111, 117, 112, 115, 32, 40, 109, 97, 120, 32, 51, 50, 41])]))
def laid_pub_timebook_pub_semver_ErrInvalidSemVer {H : Type} : DataW H := .iface "*errors.errorString" (.ptr (.agg [.lit (.string [105, 110, 118, 97, 108, 105, 100, 32, 115, 101, 109, 97, 110, 116, 105, 99, 32, 118, 101, 114, 115, 105, 111, 110])]))
def laid_pub_timebook_pub_semver_ErrEmptyString {H : Type} : DataW H := .iface "*errors.errorString" (.ptr (.agg [.lit (.string [118, 101, 114, 115, 105, 111, 110, 32, 115, 116, 114, 105, 110, 103, 32, 101, 109, 112, 116, 121])]))
def laid_pub_timebook_pub_semver_ErrInvalidCharacters {H : Type} : DataW H := .iface "*errors.errorString" (.ptr (.agg [.lit (.string [105, 110, 118, 97, 108, 105, 100, 32, 99, 104, 97, 114, 97, 99, 116, 101, 114, 115, 32, 105, 110, 32, 118, 101, 114, 115, 105, 111, 110])]))
def laid_pub_timebook_pub_semver_ErrSegmentStartsZero {H : Type} : DataW H := .iface "*errors.errorString" (.ptr (.agg [.lit (.string [118, 101, 114, 115, 105, 111, 110, 32, 115, 101, 103, 109, 101, 110, 116, 32, 115, 116, 97, 114, 116, 115, 32, 119, 105, 116, 104, 32, 48])]))
def laid_pub_timebook_pub_semver_ErrInvalidMetadata {H : Type} : DataW H := .iface "*errors.errorString" (.ptr (.agg [.lit (.string [105, 110, 118, 97, 108, 105, 100, 32, 109, 101, 116, 97, 100, 97, 116, 97, 32, 115, 116, 114, 105, 110, 103])]))
def laid_pub_timebook_pub_semver_ErrInvalidPrerelease {H : Type} : DataW H := .iface "*errors.errorString" (.ptr (.agg [.lit (.string [105, 110, 118, 97, 108, 105, 100, 32, 112, 114, 101, 114, 101, 108, 101, 97, 115, 101, 32, 115, 116, 114, 105, 110, 103])]))
def laid_pub_timebook_pub_semver_ErrVersionTooLong {H : Type} : DataW H := .iface "*errors.errorString" (.ptr (.agg [.lit (.string [118, 101, 114, 115, 105, 111, 110, 32, 115, 116, 114, 105, 110, 103, 32, 105, 115, 32, 116, 111, 111, 32, 108, 111, 110, 103, 32, 40, 109, 97, 120, 32, 50, 53, 54, 32, 98, 121, 116, 101, 115, 41])]))
def laid_math_bits_deBruijn32tab {H : Type} : DataW H := .agg [.lit (.int .u8 0), .lit (.int .u8 1), .lit (.int .u8 28), .lit (.int .u8 2), .lit (.int .u8 29), .lit (.int .u8 14), .lit (.int .u8 24), .lit (.int .u8 3), .lit (.int .u8 30), .lit (.int .u8 22), .lit (.int .u8 20), .lit (.int .u8 15), .lit (.int .u8 25), .lit (.int .u8 17), .lit (.int .u8 4), .lit (.int .u8 8), .lit (.int .u8 31), .lit (.int .u8 27), .lit (.int .u8 13), .lit (.int .u8 23), .lit (.int .u8 21), .lit (.int .u8 19), .lit (.int .u8 16), .lit (.int .u8 7), .lit (.int .u8 26), .lit (.int .u8 12), .lit (.int .u8 18), .lit (.int .u8 6), .lit (.int .u8 11), .lit (.int .u8 5), .lit (.int .u8 10), .lit (.int .u8 9)]
def laid_math_bits_deBruijn64tab {H : Type} : DataW H := .agg [.lit (.int .u8 0), .lit (.int .u8 1), .lit (.int .u8 56), .lit (.int .u8 2), .lit (.int .u8 57), .lit (.int .u8 49), .lit (.int .u8 28), .lit (.int .u8 3), .lit (.int .u8 61), .lit (.int .u8 58), .lit (.int .u8 42), .lit (.int .u8 50), .lit (.int .u8 38), .lit (.int .u8 29), .lit (.int .u8 17), .lit (.int .u8 4), .lit (.int .u8 62), .lit (.int .u8 47), .lit (.int .u8 59), .lit (.int .u8 36), .lit (.int .u8 45), .lit (.int .u8 43), .lit (.int .u8 51), .lit (.int .u8 22), .lit (.int .u8 53), .lit (.int .u8 39), .lit (.int .u8 33), .lit (.int .u8 30), .lit (.int .u8 24), .lit (.int .u8 18), .lit (.int .u8 12), .lit (.int .u8 5), .lit (.int .u8 63), .lit (.int .u8 55), .lit (.int .u8 48), .lit (.int .u8 27), .lit (.int .u8 60), .lit (.int .u8 41), .lit (.int .u8 37), .lit (.int .u8 16), .lit (.int .u8 46), .lit (.int .u8 35), .lit (.int .u8 44), .lit (.int .u8 21), .lit (.int .u8 52), .lit (.int .u8 32), .lit (.int .u8 23), .lit (.int .u8 11), .lit (.int .u8 54), .lit (.int .u8 26), .lit (.int .u8 40), .lit (.int .u8 15), .lit (.int .u8 34), .lit (.int .u8 20), .lit (.int .u8 31), .lit (.int .u8 10), .lit (.int .u8 25), .lit (.int .u8 14), .lit (.int .u8 19), .lit (.int .u8 9), .lit (.int .u8 13), .lit (.int .u8 8), .lit (.int .u8 7), .lit (.int .u8 6)]
def laid_internal_strconv_uint64pow10 {H : Type} : DataW H := .agg [.lit (.int .u64 1), .lit (.int .u64 10), .lit (.int .u64 100), .lit (.int .u64 1000), .lit (.int .u64 10000), .lit (.int .u64 100000), .lit (.int .u64 1000000), .lit (.int .u64 10000000), .lit (.int .u64 100000000), .lit (.int .u64 1000000000), .lit (.int .u64 10000000000), .lit (.int .u64 100000000000), .lit (.int .u64 1000000000000), .lit (.int .u64 10000000000000), .lit (.int .u64 100000000000000), .lit (.int .u64 1000000000000000), .lit (.int .u64 10000000000000000), .lit (.int .u64 100000000000000000), .lit (.int .u64 1000000000000000000), .lit (.int .u64 10000000000000000000)]
def laid_strconv_ErrRange {H : Type} : DataW H := .iface "*errors.errorString" (.ptr (.agg [.lit (.string [118, 97, 108, 117, 101, 32, 111, 117, 116, 32, 111, 102, 32, 114, 97, 110, 103, 101])]))
def laid_strconv_ErrSyntax {H : Type} : DataW H := .iface "*errors.errorString" (.ptr (.agg [.lit (.string [105, 110, 118, 97, 108, 105, 100, 32, 115, 121, 110, 116, 97, 120])]))

/-- 'laws.FnSemverPreKindJoin': WHATEVER THE INPUT: true; the input reads as it did. -/
def fnSemverPreKindJoinSpec : ChangeSpec := { name := "fnSemverPreKindJoin", fn := fun _ => fun
  | [d1, d2] => { results := [.lit (.bool true)], args := [d1, d2] }
  | _ => none }
def fnSemverPreKindJoinRow : OpenClaim := { program := "ytalpehfjjidfhaadoor", sum := "c9ca8058d5b6ca8ccec98046829f23801e672334b1e5bed9b94675b8d2c19cd2", func := "pub-timebook/laws.FnSemverPreKindJoin", spec := "fnSemverPreKindJoin", inPlace := ["internal/reflectlite.TypeOf"], unfollowed := true, recurses := true, named := ["pub-timebook/pub/semver.ErrInvalidPrerelease", "pub-timebook/pub/semver.ErrSegmentStartsZero", "pub-timebook/pub/semver.ErrEmptyString", "pub-timebook/pub/semver.ErrVersionTooLong", "pub-timebook/pub/semver.ErrInvalidCharacters", "pub-timebook/pub/semver.ErrInvalidMetadata", "pub-timebook/pub/semver.ErrInvalidSemVer", "pub-timebook/pub/semver.ErrConstraintTooLong", "pub-timebook/pub/semver.ErrTooManyConstraintGroups"], apart := false, laid := [("pub-timebook/pub/semver.ErrConstraintTooLong", laid_pub_timebook_pub_semver_ErrConstraintTooLong), ("pub-timebook/pub/semver.ErrTooManyConstraintGroups", laid_pub_timebook_pub_semver_ErrTooManyConstraintGroups), ("pub-timebook/pub/semver.ErrInvalidSemVer", laid_pub_timebook_pub_semver_ErrInvalidSemVer), ("pub-timebook/pub/semver.ErrEmptyString", laid_pub_timebook_pub_semver_ErrEmptyString), ("pub-timebook/pub/semver.ErrInvalidCharacters", laid_pub_timebook_pub_semver_ErrInvalidCharacters), ("pub-timebook/pub/semver.ErrSegmentStartsZero", laid_pub_timebook_pub_semver_ErrSegmentStartsZero), ("pub-timebook/pub/semver.ErrInvalidMetadata", laid_pub_timebook_pub_semver_ErrInvalidMetadata), ("pub-timebook/pub/semver.ErrInvalidPrerelease", laid_pub_timebook_pub_semver_ErrInvalidPrerelease), ("pub-timebook/pub/semver.ErrVersionTooLong", laid_pub_timebook_pub_semver_ErrVersionTooLong)] }
def FnSemverPreKindJoinSaid : Prop := fnSemverPreKindJoinRow.holds Tryd.pinned (OpenSpec.ofChange fnSemverPreKindJoinSpec)

/-- ITS FALSE NEIGHBOUR: 'it returns false'. Refute it at one input. -/
def fnSemverPreKindJoinWrong : ChangeSpec := { name := "fnSemverPreKindJoin", fn := fun _ => fun
  | [d1, d2] => { results := [.lit (.bool false)], args := [d1, d2] }
  | _ => none }
def FnSemverPreKindJoinWrongFalsely : Prop := fnSemverPreKindJoinRow.holds Tryd.pinned (OpenSpec.ofChange fnSemverPreKindJoinWrong)

/-- 'laws.FnSemverPreHead': WHATEVER THE INPUT: true; the input reads as it did. -/
def fnSemverPreHeadSpec : ChangeSpec := { name := "fnSemverPreHead", fn := fun _ => fun
  | [d1, d2, d3] => { results := [.lit (.bool true)], args := [d1, d2, d3] }
  | _ => none }
def fnSemverPreHeadRow : OpenClaim := { program := "ytalpehfjjidfhaadoor", sum := "c9ca8058d5b6ca8ccec98046829f23801e672334b1e5bed9b94675b8d2c19cd2", func := "pub-timebook/laws.FnSemverPreHead", spec := "fnSemverPreHead", named := ["strconv.ErrSyntax", "strconv.ErrRange", "internal/strconv.uint64pow10", "math/bits.deBruijn32tab", "math/bits.deBruijn64tab"], apart := false, laid := [("math/bits.deBruijn32tab", laid_math_bits_deBruijn32tab), ("math/bits.deBruijn64tab", laid_math_bits_deBruijn64tab), ("internal/strconv.uint64pow10", laid_internal_strconv_uint64pow10), ("strconv.ErrRange", laid_strconv_ErrRange), ("strconv.ErrSyntax", laid_strconv_ErrSyntax)] }
def FnSemverPreHeadSaid : Prop := fnSemverPreHeadRow.holds Tryd.pinned (OpenSpec.ofChange fnSemverPreHeadSpec)

/-- ITS FALSE NEIGHBOUR: 'it returns false'. Refute it at one input. -/
def fnSemverPreHeadWrong : ChangeSpec := { name := "fnSemverPreHead", fn := fun _ => fun
  | [d1, d2, d3] => { results := [.lit (.bool false)], args := [d1, d2, d3] }
  | _ => none }
def FnSemverPreHeadWrongFalsely : Prop := fnSemverPreHeadRow.holds Tryd.pinned (OpenSpec.ofChange fnSemverPreHeadWrong)

/-- 'laws.FnSemverOrder': WHATEVER THE INPUT: true; the input reads as it did. -/
def fnSemverOrderSpec : ChangeSpec := { name := "fnSemverOrder", fn := fun _ => fun
  | [d1, d2, d3] => { results := [.lit (.bool true)], args := [d1, d2, d3] }
  | _ => none }
def fnSemverOrderRow : OpenClaim := { program := "ytalpehfjjidfhaadoor", sum := "c9ca8058d5b6ca8ccec98046829f23801e672334b1e5bed9b94675b8d2c19cd2", func := "pub-timebook/laws.FnSemverOrder", spec := "fnSemverOrder", named := ["strconv.ErrSyntax", "strconv.ErrRange", "internal/strconv.uint64pow10", "math/bits.deBruijn32tab", "math/bits.deBruijn64tab"], apart := false, laid := [("math/bits.deBruijn32tab", laid_math_bits_deBruijn32tab), ("math/bits.deBruijn64tab", laid_math_bits_deBruijn64tab), ("internal/strconv.uint64pow10", laid_internal_strconv_uint64pow10), ("strconv.ErrRange", laid_strconv_ErrRange), ("strconv.ErrSyntax", laid_strconv_ErrSyntax)] }
def FnSemverOrderSaid : Prop := fnSemverOrderRow.holds Tryd.pinned (OpenSpec.ofChange fnSemverOrderSpec)

/-- ITS FALSE NEIGHBOUR: 'it returns false'. Refute it at one input. -/
def fnSemverOrderWrong : ChangeSpec := { name := "fnSemverOrder", fn := fun _ => fun
  | [d1, d2, d3] => { results := [.lit (.bool false)], args := [d1, d2, d3] }
  | _ => none }
def FnSemverOrderWrongFalsely : Prop := fnSemverOrderRow.holds Tryd.pinned (OpenSpec.ofChange fnSemverOrderWrong)

/-- 'laws.FnSemverPreNumbers': WHATEVER THE INPUT: true; the input reads as it did. -/
def fnSemverPreNumbersSpec : ChangeSpec := { name := "fnSemverPreNumbers", fn := fun _ => fun
  | [d1, d2, d3, d4] => { results := [.lit (.bool true)], args := [d1, d2, d3, d4] }
  | _ => none }
def fnSemverPreNumbersRow : OpenClaim := { program := "ytalpehfjjidfhaadoor", sum := "c9ca8058d5b6ca8ccec98046829f23801e672334b1e5bed9b94675b8d2c19cd2", func := "pub-timebook/laws.FnSemverPreNumbers", spec := "fnSemverPreNumbers", recurses := true, named := ["strconv.ErrSyntax", "strconv.ErrRange", "internal/strconv.uint64pow10", "math/bits.deBruijn32tab", "math/bits.deBruijn64tab"], apart := false, laid := [("math/bits.deBruijn32tab", laid_math_bits_deBruijn32tab), ("math/bits.deBruijn64tab", laid_math_bits_deBruijn64tab), ("internal/strconv.uint64pow10", laid_internal_strconv_uint64pow10), ("strconv.ErrRange", laid_strconv_ErrRange), ("strconv.ErrSyntax", laid_strconv_ErrSyntax)] }
def FnSemverPreNumbersSaid : Prop := fnSemverPreNumbersRow.holds Tryd.pinned (OpenSpec.ofChange fnSemverPreNumbersSpec)

/-- ITS FALSE NEIGHBOUR: 'it returns false'. Refute it at one input. -/
def fnSemverPreNumbersWrong : ChangeSpec := { name := "fnSemverPreNumbers", fn := fun _ => fun
  | [d1, d2, d3, d4] => { results := [.lit (.bool false)], args := [d1, d2, d3, d4] }
  | _ => none }
def FnSemverPreNumbersWrongFalsely : Prop := fnSemverPreNumbersRow.holds Tryd.pinned (OpenSpec.ofChange fnSemverPreNumbersWrong)

/-- 'laws.FnSemverStrictLonger': WHATEVER THE INPUT: true; the input reads as it did. -/
def fnSemverStrictLongerSpec : ChangeSpec := { name := "fnSemverStrictLonger", fn := fun _ => fun
  | [d1, d2] => { results := [.lit (.bool true)], args := [d1, d2] }
  | _ => none }
def fnSemverStrictLongerRow : OpenClaim := { program := "ytalpehfjjidfhaadoor", sum := "c9ca8058d5b6ca8ccec98046829f23801e672334b1e5bed9b94675b8d2c19cd2", func := "pub-timebook/laws.FnSemverStrictLonger", spec := "fnSemverStrictLonger", unfollowed := true, recurses := true, named := ["pub-timebook/pub/semver.ErrEmptyString", "pub-timebook/pub/semver.ErrVersionTooLong", "pub-timebook/pub/semver.ErrInvalidSemVer", "pub-timebook/pub/semver.ErrInvalidCharacters", "pub-timebook/pub/semver.ErrSegmentStartsZero", "pub-timebook/pub/semver.ErrInvalidMetadata", "pub-timebook/pub/semver.ErrInvalidPrerelease", "strconv.ErrSyntax", "strconv.ErrRange", "internal/strconv.uint64pow10", "math/bits.deBruijn32tab", "math/bits.deBruijn64tab"], apart := false, laid := [("math/bits.deBruijn32tab", laid_math_bits_deBruijn32tab), ("math/bits.deBruijn64tab", laid_math_bits_deBruijn64tab), ("internal/strconv.uint64pow10", laid_internal_strconv_uint64pow10), ("strconv.ErrRange", laid_strconv_ErrRange), ("strconv.ErrSyntax", laid_strconv_ErrSyntax), ("pub-timebook/pub/semver.ErrInvalidSemVer", laid_pub_timebook_pub_semver_ErrInvalidSemVer), ("pub-timebook/pub/semver.ErrEmptyString", laid_pub_timebook_pub_semver_ErrEmptyString), ("pub-timebook/pub/semver.ErrInvalidCharacters", laid_pub_timebook_pub_semver_ErrInvalidCharacters), ("pub-timebook/pub/semver.ErrSegmentStartsZero", laid_pub_timebook_pub_semver_ErrSegmentStartsZero), ("pub-timebook/pub/semver.ErrInvalidMetadata", laid_pub_timebook_pub_semver_ErrInvalidMetadata), ("pub-timebook/pub/semver.ErrInvalidPrerelease", laid_pub_timebook_pub_semver_ErrInvalidPrerelease), ("pub-timebook/pub/semver.ErrVersionTooLong", laid_pub_timebook_pub_semver_ErrVersionTooLong)] }
def FnSemverStrictLongerSaid : Prop := fnSemverStrictLongerRow.holds Tryd.pinned (OpenSpec.ofChange fnSemverStrictLongerSpec)

/-- ITS FALSE NEIGHBOUR: 'it returns false'. Refute it at one input. -/
def fnSemverStrictLongerWrong : ChangeSpec := { name := "fnSemverStrictLonger", fn := fun _ => fun
  | [d1, d2] => { results := [.lit (.bool false)], args := [d1, d2] }
  | _ => none }
def FnSemverStrictLongerWrongFalsely : Prop := fnSemverStrictLongerRow.holds Tryd.pinned (OpenSpec.ofChange fnSemverStrictLongerWrong)

/-- 'laws.FnSemverStrictReads': WHATEVER THE INPUT: true; the input reads as it did. -/
def fnSemverStrictReadsSpec : ChangeSpec := { name := "fnSemverStrictReads", fn := fun _ => fun
  | [d] => { results := [.lit (.bool true)], args := [d] }
  | _ => none }
def fnSemverStrictReadsRow : OpenClaim := { program := "ytalpehfjjidfhaadoor", sum := "c9ca8058d5b6ca8ccec98046829f23801e672334b1e5bed9b94675b8d2c19cd2", func := "pub-timebook/laws.FnSemverStrictReads", spec := "fnSemverStrictReads", unfollowed := true, recurses := true, named := ["pub-timebook/pub/semver.ErrEmptyString", "pub-timebook/pub/semver.ErrVersionTooLong", "pub-timebook/pub/semver.ErrInvalidSemVer", "pub-timebook/pub/semver.ErrInvalidCharacters", "pub-timebook/pub/semver.ErrSegmentStartsZero", "pub-timebook/pub/semver.ErrInvalidMetadata", "pub-timebook/pub/semver.ErrInvalidPrerelease", "strconv.ErrSyntax", "strconv.ErrRange", "internal/strconv.uint64pow10", "math/bits.deBruijn32tab", "math/bits.deBruijn64tab"], apart := false, laid := [("math/bits.deBruijn32tab", laid_math_bits_deBruijn32tab), ("math/bits.deBruijn64tab", laid_math_bits_deBruijn64tab), ("internal/strconv.uint64pow10", laid_internal_strconv_uint64pow10), ("strconv.ErrRange", laid_strconv_ErrRange), ("strconv.ErrSyntax", laid_strconv_ErrSyntax), ("pub-timebook/pub/semver.ErrInvalidSemVer", laid_pub_timebook_pub_semver_ErrInvalidSemVer), ("pub-timebook/pub/semver.ErrEmptyString", laid_pub_timebook_pub_semver_ErrEmptyString), ("pub-timebook/pub/semver.ErrInvalidCharacters", laid_pub_timebook_pub_semver_ErrInvalidCharacters), ("pub-timebook/pub/semver.ErrSegmentStartsZero", laid_pub_timebook_pub_semver_ErrSegmentStartsZero), ("pub-timebook/pub/semver.ErrInvalidMetadata", laid_pub_timebook_pub_semver_ErrInvalidMetadata), ("pub-timebook/pub/semver.ErrInvalidPrerelease", laid_pub_timebook_pub_semver_ErrInvalidPrerelease), ("pub-timebook/pub/semver.ErrVersionTooLong", laid_pub_timebook_pub_semver_ErrVersionTooLong)] }
def FnSemverStrictReadsSaid : Prop := fnSemverStrictReadsRow.holds Tryd.pinned (OpenSpec.ofChange fnSemverStrictReadsSpec)

/-- ITS FALSE NEIGHBOUR: 'it returns false'. Refute it at one input. -/
def fnSemverStrictReadsWrong : ChangeSpec := { name := "fnSemverStrictReads", fn := fun _ => fun
  | [d] => { results := [.lit (.bool false)], args := [d] }
  | _ => none }
def FnSemverStrictReadsWrongFalsely : Prop := fnSemverStrictReadsRow.holds Tryd.pinned (OpenSpec.ofChange fnSemverStrictReadsWrong)

/-- 'laws.FnSemverLeastHolds': WHATEVER THE INPUT: true; the input reads as it did. -/
def fnSemverLeastHoldsSpec : ChangeSpec := { name := "fnSemverLeastHolds", fn := fun _ => fun
  | [d1, d2, d3] => { results := [.lit (.bool true)], args := [d1, d2, d3] }
  | _ => none }
def fnSemverLeastHoldsRow : OpenClaim := { program := "ytalpehfjjidfhaadoor", sum := "c9ca8058d5b6ca8ccec98046829f23801e672334b1e5bed9b94675b8d2c19cd2", func := "pub-timebook/laws.FnSemverLeastHolds", spec := "fnSemverLeastHolds", named := ["strconv.ErrSyntax", "strconv.ErrRange", "internal/strconv.uint64pow10", "math/bits.deBruijn32tab", "math/bits.deBruijn64tab"], apart := false, laid := [("math/bits.deBruijn32tab", laid_math_bits_deBruijn32tab), ("math/bits.deBruijn64tab", laid_math_bits_deBruijn64tab), ("internal/strconv.uint64pow10", laid_internal_strconv_uint64pow10), ("strconv.ErrRange", laid_strconv_ErrRange), ("strconv.ErrSyntax", laid_strconv_ErrSyntax)] }
def FnSemverLeastHoldsSaid : Prop := fnSemverLeastHoldsRow.holds Tryd.pinned (OpenSpec.ofChange fnSemverLeastHoldsSpec)

/-- ITS FALSE NEIGHBOUR: 'it returns false'. Refute it at one input. -/
def fnSemverLeastHoldsWrong : ChangeSpec := { name := "fnSemverLeastHolds", fn := fun _ => fun
  | [d1, d2, d3] => { results := [.lit (.bool false)], args := [d1, d2, d3] }
  | _ => none }
def FnSemverLeastHoldsWrongFalsely : Prop := fnSemverLeastHoldsRow.holds Tryd.pinned (OpenSpec.ofChange fnSemverLeastHoldsWrong)

/-- 'laws.FnSemverLeastCompares': WHATEVER THE INPUT: true; the input reads as it did. -/
def fnSemverLeastComparesSpec : ChangeSpec := { name := "fnSemverLeastCompares", fn := fun _ => fun
  | [d1, d2] => { results := [.lit (.bool true)], args := [d1, d2] }
  | _ => none }
def fnSemverLeastComparesRow : OpenClaim := { program := "ytalpehfjjidfhaadoor", sum := "c9ca8058d5b6ca8ccec98046829f23801e672334b1e5bed9b94675b8d2c19cd2", func := "pub-timebook/laws.FnSemverLeastCompares", spec := "fnSemverLeastCompares", named := ["strconv.ErrSyntax", "strconv.ErrRange", "internal/strconv.uint64pow10", "math/bits.deBruijn32tab", "math/bits.deBruijn64tab"], apart := false, laid := [("math/bits.deBruijn32tab", laid_math_bits_deBruijn32tab), ("math/bits.deBruijn64tab", laid_math_bits_deBruijn64tab), ("internal/strconv.uint64pow10", laid_internal_strconv_uint64pow10), ("strconv.ErrRange", laid_strconv_ErrRange), ("strconv.ErrSyntax", laid_strconv_ErrSyntax)] }
def FnSemverLeastComparesSaid : Prop := fnSemverLeastComparesRow.holds Tryd.pinned (OpenSpec.ofChange fnSemverLeastComparesSpec)

/-- ITS FALSE NEIGHBOUR: 'it returns false'. Refute it at one input. -/
def fnSemverLeastComparesWrong : ChangeSpec := { name := "fnSemverLeastCompares", fn := fun _ => fun
  | [d1, d2] => { results := [.lit (.bool false)], args := [d1, d2] }
  | _ => none }
def FnSemverLeastComparesWrongFalsely : Prop := fnSemverLeastComparesRow.holds Tryd.pinned (OpenSpec.ofChange fnSemverLeastComparesWrong)

/-- 'laws.FnSemverStrictKindParts': WHATEVER THE INPUT: true; the input reads as it did. -/
def fnSemverStrictKindPartsSpec : ChangeSpec := { name := "fnSemverStrictKindParts", fn := fun _ => fun
  | [d1, d2, d3, d4, d5] => { results := [.lit (.bool true)], args := [d1, d2, d3, d4, d5] }
  | _ => none }
def fnSemverStrictKindPartsRow : OpenClaim := { program := "ytalpehfjjidfhaadoor", sum := "c9ca8058d5b6ca8ccec98046829f23801e672334b1e5bed9b94675b8d2c19cd2", func := "pub-timebook/laws.FnSemverStrictKindParts", spec := "fnSemverStrictKindParts", inPlace := ["internal/reflectlite.TypeOf"], unfollowed := true, recurses := true, named := ["pub-timebook/pub/semver.ErrInvalidPrerelease", "pub-timebook/pub/semver.ErrSegmentStartsZero", "pub-timebook/pub/semver.ErrEmptyString", "pub-timebook/pub/semver.ErrVersionTooLong", "pub-timebook/pub/semver.ErrInvalidCharacters", "pub-timebook/pub/semver.ErrInvalidMetadata", "pub-timebook/pub/semver.ErrInvalidSemVer", "pub-timebook/pub/semver.ErrConstraintTooLong", "pub-timebook/pub/semver.ErrTooManyConstraintGroups", "strconv.ErrSyntax", "strconv.ErrRange", "internal/strconv.uint64pow10", "math/bits.deBruijn32tab", "math/bits.deBruijn64tab"], apart := false, laid := [("math/bits.deBruijn32tab", laid_math_bits_deBruijn32tab), ("math/bits.deBruijn64tab", laid_math_bits_deBruijn64tab), ("internal/strconv.uint64pow10", laid_internal_strconv_uint64pow10), ("strconv.ErrRange", laid_strconv_ErrRange), ("strconv.ErrSyntax", laid_strconv_ErrSyntax), ("pub-timebook/pub/semver.ErrConstraintTooLong", laid_pub_timebook_pub_semver_ErrConstraintTooLong), ("pub-timebook/pub/semver.ErrTooManyConstraintGroups", laid_pub_timebook_pub_semver_ErrTooManyConstraintGroups), ("pub-timebook/pub/semver.ErrInvalidSemVer", laid_pub_timebook_pub_semver_ErrInvalidSemVer), ("pub-timebook/pub/semver.ErrEmptyString", laid_pub_timebook_pub_semver_ErrEmptyString), ("pub-timebook/pub/semver.ErrInvalidCharacters", laid_pub_timebook_pub_semver_ErrInvalidCharacters), ("pub-timebook/pub/semver.ErrSegmentStartsZero", laid_pub_timebook_pub_semver_ErrSegmentStartsZero), ("pub-timebook/pub/semver.ErrInvalidMetadata", laid_pub_timebook_pub_semver_ErrInvalidMetadata), ("pub-timebook/pub/semver.ErrInvalidPrerelease", laid_pub_timebook_pub_semver_ErrInvalidPrerelease), ("pub-timebook/pub/semver.ErrVersionTooLong", laid_pub_timebook_pub_semver_ErrVersionTooLong)] }
def FnSemverStrictKindPartsSaid : Prop := fnSemverStrictKindPartsRow.holds Tryd.pinned (OpenSpec.ofChange fnSemverStrictKindPartsSpec)

/-- ITS FALSE NEIGHBOUR: 'it returns false'. Refute it at one input. -/
def fnSemverStrictKindPartsWrong : ChangeSpec := { name := "fnSemverStrictKindParts", fn := fun _ => fun
  | [d1, d2, d3, d4, d5] => { results := [.lit (.bool false)], args := [d1, d2, d3, d4, d5] }
  | _ => none }
def FnSemverStrictKindPartsWrongFalsely : Prop := fnSemverStrictKindPartsRow.holds Tryd.pinned (OpenSpec.ofChange fnSemverStrictKindPartsWrong)

/-- 'laws.FnSemverSetPrints': WHATEVER THE INPUT: true; the input reads as it did. -/
def fnSemverSetPrintsSpec : ChangeSpec := { name := "fnSemverSetPrints", fn := fun _ => fun
  | [d1, d2, d3] => { results := [.lit (.bool true)], args := [d1, d2, d3] }
  | _ => none }
def fnSemverSetPrintsRow : OpenClaim := { program := "ytalpehfjjidfhaadoor", sum := "c9ca8058d5b6ca8ccec98046829f23801e672334b1e5bed9b94675b8d2c19cd2", func := "pub-timebook/laws.FnSemverSetPrints", spec := "fnSemverSetPrints", unfollowed := true, recurses := true, named := ["pub-timebook/pub/semver.ErrInvalidPrerelease", "pub-timebook/pub/semver.ErrSegmentStartsZero", "internal/strconv.uint64pow10", "math/bits.deBruijn32tab", "math/bits.deBruijn64tab", "pub-timebook/pub/semver.ErrInvalidMetadata", "pub-timebook/pub/semver.ErrEmptyString", "pub-timebook/pub/semver.ErrVersionTooLong", "pub-timebook/pub/semver.ErrInvalidSemVer", "pub-timebook/pub/semver.ErrInvalidCharacters", "strconv.ErrSyntax", "strconv.ErrRange"], apart := false, laid := [("math/bits.deBruijn32tab", laid_math_bits_deBruijn32tab), ("math/bits.deBruijn64tab", laid_math_bits_deBruijn64tab), ("internal/strconv.uint64pow10", laid_internal_strconv_uint64pow10), ("strconv.ErrRange", laid_strconv_ErrRange), ("strconv.ErrSyntax", laid_strconv_ErrSyntax), ("pub-timebook/pub/semver.ErrInvalidSemVer", laid_pub_timebook_pub_semver_ErrInvalidSemVer), ("pub-timebook/pub/semver.ErrEmptyString", laid_pub_timebook_pub_semver_ErrEmptyString), ("pub-timebook/pub/semver.ErrInvalidCharacters", laid_pub_timebook_pub_semver_ErrInvalidCharacters), ("pub-timebook/pub/semver.ErrSegmentStartsZero", laid_pub_timebook_pub_semver_ErrSegmentStartsZero), ("pub-timebook/pub/semver.ErrInvalidMetadata", laid_pub_timebook_pub_semver_ErrInvalidMetadata), ("pub-timebook/pub/semver.ErrInvalidPrerelease", laid_pub_timebook_pub_semver_ErrInvalidPrerelease), ("pub-timebook/pub/semver.ErrVersionTooLong", laid_pub_timebook_pub_semver_ErrVersionTooLong)] }
def FnSemverSetPrintsSaid : Prop := fnSemverSetPrintsRow.holds Tryd.pinned (OpenSpec.ofChange fnSemverSetPrintsSpec)

/-- ITS FALSE NEIGHBOUR: 'it returns false'. Refute it at one input. -/
def fnSemverSetPrintsWrong : ChangeSpec := { name := "fnSemverSetPrints", fn := fun _ => fun
  | [d1, d2, d3] => { results := [.lit (.bool false)], args := [d1, d2, d3] }
  | _ => none }
def FnSemverSetPrintsWrongFalsely : Prop := fnSemverSetPrintsRow.holds Tryd.pinned (OpenSpec.ofChange fnSemverSetPrintsWrong)

/-- 'laws.FnSemverEqualWild': WHATEVER THE INPUT: true; the input reads as it did. -/
def fnSemverEqualWildSpec : ChangeSpec := { name := "fnSemverEqualWild", fn := fun _ => fun
  | [d1, d2, d3, d4] => { results := [.lit (.bool true)], args := [d1, d2, d3, d4] }
  | _ => none }
def fnSemverEqualWildRow : OpenClaim := { program := "ytalpehfjjidfhaadoor", sum := "c9ca8058d5b6ca8ccec98046829f23801e672334b1e5bed9b94675b8d2c19cd2", func := "pub-timebook/laws.FnSemverEqualWild", spec := "fnSemverEqualWild", named := ["strconv.ErrSyntax", "strconv.ErrRange", "internal/strconv.uint64pow10", "math/bits.deBruijn32tab", "math/bits.deBruijn64tab"], apart := false, laid := [("math/bits.deBruijn32tab", laid_math_bits_deBruijn32tab), ("math/bits.deBruijn64tab", laid_math_bits_deBruijn64tab), ("internal/strconv.uint64pow10", laid_internal_strconv_uint64pow10), ("strconv.ErrRange", laid_strconv_ErrRange), ("strconv.ErrSyntax", laid_strconv_ErrSyntax)] }
def FnSemverEqualWildSaid : Prop := fnSemverEqualWildRow.holds Tryd.pinned (OpenSpec.ofChange fnSemverEqualWildSpec)

/-- ITS FALSE NEIGHBOUR: 'it returns false'. Refute it at one input. -/
def fnSemverEqualWildWrong : ChangeSpec := { name := "fnSemverEqualWild", fn := fun _ => fun
  | [d1, d2, d3, d4] => { results := [.lit (.bool false)], args := [d1, d2, d3, d4] }
  | _ => none }
def FnSemverEqualWildWrongFalsely : Prop := fnSemverEqualWildRow.holds Tryd.pinned (OpenSpec.ofChange fnSemverEqualWildWrong)

/-- 'laws.FnSemverIncSteps': WHATEVER THE INPUT: true; the input reads as it did. -/
def fnSemverIncStepsSpec : ChangeSpec := { name := "fnSemverIncSteps", fn := fun _ => fun
  | [d] => { results := [.lit (.bool true)], args := [d] }
  | _ => none }
def fnSemverIncStepsRow : OpenClaim := { program := "ytalpehfjjidfhaadoor", sum := "c9ca8058d5b6ca8ccec98046829f23801e672334b1e5bed9b94675b8d2c19cd2", func := "pub-timebook/laws.FnSemverIncSteps", spec := "fnSemverIncSteps", named := ["internal/strconv.uint64pow10", "math/bits.deBruijn32tab", "math/bits.deBruijn64tab", "strconv.ErrSyntax", "strconv.ErrRange"], apart := false, laid := [("math/bits.deBruijn32tab", laid_math_bits_deBruijn32tab), ("math/bits.deBruijn64tab", laid_math_bits_deBruijn64tab), ("internal/strconv.uint64pow10", laid_internal_strconv_uint64pow10), ("strconv.ErrRange", laid_strconv_ErrRange), ("strconv.ErrSyntax", laid_strconv_ErrSyntax)] }
def FnSemverIncStepsSaid : Prop := fnSemverIncStepsRow.holds Tryd.pinned (OpenSpec.ofChange fnSemverIncStepsSpec)

/-- ITS FALSE NEIGHBOUR: 'it returns false'. Refute it at one input. -/
def fnSemverIncStepsWrong : ChangeSpec := { name := "fnSemverIncSteps", fn := fun _ => fun
  | [d] => { results := [.lit (.bool false)], args := [d] }
  | _ => none }
def FnSemverIncStepsWrongFalsely : Prop := fnSemverIncStepsRow.holds Tryd.pinned (OpenSpec.ofChange fnSemverIncStepsWrong)

/-- 'laws.FnSemverTermCaretTilde': WHATEVER THE INPUT: true; the input reads as it did. -/
def fnSemverTermCaretTildeSpec : ChangeSpec := { name := "fnSemverTermCaretTilde", fn := fun _ => fun
  | [d1, d2] => { results := [.lit (.bool true)], args := [d1, d2] }
  | _ => none }
def fnSemverTermCaretTildeRow : OpenClaim := { program := "ytalpehfjjidfhaadoor", sum := "c9ca8058d5b6ca8ccec98046829f23801e672334b1e5bed9b94675b8d2c19cd2", func := "pub-timebook/laws.FnSemverTermCaretTilde", spec := "fnSemverTermCaretTilde", named := ["strconv.ErrSyntax", "strconv.ErrRange", "internal/strconv.uint64pow10", "math/bits.deBruijn32tab", "math/bits.deBruijn64tab"], apart := false, laid := [("math/bits.deBruijn32tab", laid_math_bits_deBruijn32tab), ("math/bits.deBruijn64tab", laid_math_bits_deBruijn64tab), ("internal/strconv.uint64pow10", laid_internal_strconv_uint64pow10), ("strconv.ErrRange", laid_strconv_ErrRange), ("strconv.ErrSyntax", laid_strconv_ErrSyntax)] }
def FnSemverTermCaretTildeSaid : Prop := fnSemverTermCaretTildeRow.holds Tryd.pinned (OpenSpec.ofChange fnSemverTermCaretTildeSpec)

/-- ITS FALSE NEIGHBOUR: 'it returns false'. Refute it at one input. -/
def fnSemverTermCaretTildeWrong : ChangeSpec := { name := "fnSemverTermCaretTilde", fn := fun _ => fun
  | [d1, d2] => { results := [.lit (.bool false)], args := [d1, d2] }
  | _ => none }
def FnSemverTermCaretTildeWrongFalsely : Prop := fnSemverTermCaretTildeRow.holds Tryd.pinned (OpenSpec.ofChange fnSemverTermCaretTildeWrong)

/-- 'laws.FnSemverTermDown': WHATEVER THE INPUT: true; the input reads as it did. -/
def fnSemverTermDownSpec : ChangeSpec := { name := "fnSemverTermDown", fn := fun _ => fun
  | [d1, d2, d3] => { results := [.lit (.bool true)], args := [d1, d2, d3] }
  | _ => none }
def fnSemverTermDownRow : OpenClaim := { program := "ytalpehfjjidfhaadoor", sum := "c9ca8058d5b6ca8ccec98046829f23801e672334b1e5bed9b94675b8d2c19cd2", func := "pub-timebook/laws.FnSemverTermDown", spec := "fnSemverTermDown", named := ["strconv.ErrSyntax", "strconv.ErrRange", "internal/strconv.uint64pow10", "math/bits.deBruijn32tab", "math/bits.deBruijn64tab"], apart := false, laid := [("math/bits.deBruijn32tab", laid_math_bits_deBruijn32tab), ("math/bits.deBruijn64tab", laid_math_bits_deBruijn64tab), ("internal/strconv.uint64pow10", laid_internal_strconv_uint64pow10), ("strconv.ErrRange", laid_strconv_ErrRange), ("strconv.ErrSyntax", laid_strconv_ErrSyntax)] }
def FnSemverTermDownSaid : Prop := fnSemverTermDownRow.holds Tryd.pinned (OpenSpec.ofChange fnSemverTermDownSpec)

/-- ITS FALSE NEIGHBOUR: 'it returns false'. Refute it at one input. -/
def fnSemverTermDownWrong : ChangeSpec := { name := "fnSemverTermDown", fn := fun _ => fun
  | [d1, d2, d3] => { results := [.lit (.bool false)], args := [d1, d2, d3] }
  | _ => none }
def FnSemverTermDownWrongFalsely : Prop := fnSemverTermDownRow.holds Tryd.pinned (OpenSpec.ofChange fnSemverTermDownWrong)

/-- 'laws.FnSemverComplement': WHATEVER THE INPUT: true; the input reads as it did. -/
def fnSemverComplementSpec : ChangeSpec := { name := "fnSemverComplement", fn := fun _ => fun
  | [d1, d2] => { results := [.lit (.bool true)], args := [d1, d2] }
  | _ => none }
def fnSemverComplementRow : OpenClaim := { program := "ytalpehfjjidfhaadoor", sum := "c9ca8058d5b6ca8ccec98046829f23801e672334b1e5bed9b94675b8d2c19cd2", func := "pub-timebook/laws.FnSemverComplement", spec := "fnSemverComplement", named := ["strconv.ErrSyntax", "strconv.ErrRange", "internal/strconv.uint64pow10", "math/bits.deBruijn32tab", "math/bits.deBruijn64tab"], apart := false, laid := [("math/bits.deBruijn32tab", laid_math_bits_deBruijn32tab), ("math/bits.deBruijn64tab", laid_math_bits_deBruijn64tab), ("internal/strconv.uint64pow10", laid_internal_strconv_uint64pow10), ("strconv.ErrRange", laid_strconv_ErrRange), ("strconv.ErrSyntax", laid_strconv_ErrSyntax)] }
def FnSemverComplementSaid : Prop := fnSemverComplementRow.holds Tryd.pinned (OpenSpec.ofChange fnSemverComplementSpec)

/-- ITS FALSE NEIGHBOUR: 'it returns false'. Refute it at one input. -/
def fnSemverComplementWrong : ChangeSpec := { name := "fnSemverComplement", fn := fun _ => fun
  | [d1, d2] => { results := [.lit (.bool false)], args := [d1, d2] }
  | _ => none }
def FnSemverComplementWrongFalsely : Prop := fnSemverComplementRow.holds Tryd.pinned (OpenSpec.ofChange fnSemverComplementWrong)

/-- 'laws.FnSemverLanding': WHATEVER THE INPUT: true; the input reads as it did. -/
def fnSemverLandingSpec : ChangeSpec := { name := "fnSemverLanding", fn := fun _ => fun
  | [d1, d2] => { results := [.lit (.bool true)], args := [d1, d2] }
  | _ => none }
def fnSemverLandingRow : OpenClaim := { program := "ytalpehfjjidfhaadoor", sum := "c9ca8058d5b6ca8ccec98046829f23801e672334b1e5bed9b94675b8d2c19cd2", func := "pub-timebook/laws.FnSemverLanding", spec := "fnSemverLanding", named := ["strconv.ErrSyntax", "strconv.ErrRange", "internal/strconv.uint64pow10", "math/bits.deBruijn32tab", "math/bits.deBruijn64tab"], apart := false, laid := [("math/bits.deBruijn32tab", laid_math_bits_deBruijn32tab), ("math/bits.deBruijn64tab", laid_math_bits_deBruijn64tab), ("internal/strconv.uint64pow10", laid_internal_strconv_uint64pow10), ("strconv.ErrRange", laid_strconv_ErrRange), ("strconv.ErrSyntax", laid_strconv_ErrSyntax)] }
def FnSemverLandingSaid : Prop := fnSemverLandingRow.holds Tryd.pinned (OpenSpec.ofChange fnSemverLandingSpec)

/-- ITS FALSE NEIGHBOUR: 'it returns false'. Refute it at one input. -/
def fnSemverLandingWrong : ChangeSpec := { name := "fnSemverLanding", fn := fun _ => fun
  | [d1, d2] => { results := [.lit (.bool false)], args := [d1, d2] }
  | _ => none }
def FnSemverLandingWrongFalsely : Prop := fnSemverLandingRow.holds Tryd.pinned (OpenSpec.ofChange fnSemverLandingWrong)

/-- 'laws.FnSemverTermsHoldPre': WHATEVER THE INPUT: true; the input reads as it did. -/
def fnSemverTermsHoldPreSpec : ChangeSpec := { name := "fnSemverTermsHoldPre", fn := fun _ => fun
  | [d1, d2, d3] => { results := [.lit (.bool true)], args := [d1, d2, d3] }
  | _ => none }
def fnSemverTermsHoldPreRow : OpenClaim := { program := "ytalpehfjjidfhaadoor", sum := "c9ca8058d5b6ca8ccec98046829f23801e672334b1e5bed9b94675b8d2c19cd2", func := "pub-timebook/laws.FnSemverTermsHoldPre", spec := "fnSemverTermsHoldPre", named := ["strconv.ErrSyntax", "strconv.ErrRange", "internal/strconv.uint64pow10", "math/bits.deBruijn32tab", "math/bits.deBruijn64tab"], apart := false, laid := [("math/bits.deBruijn32tab", laid_math_bits_deBruijn32tab), ("math/bits.deBruijn64tab", laid_math_bits_deBruijn64tab), ("internal/strconv.uint64pow10", laid_internal_strconv_uint64pow10), ("strconv.ErrRange", laid_strconv_ErrRange), ("strconv.ErrSyntax", laid_strconv_ErrSyntax)] }
def FnSemverTermsHoldPreSaid : Prop := fnSemverTermsHoldPreRow.holds Tryd.pinned (OpenSpec.ofChange fnSemverTermsHoldPreSpec)

/-- ITS FALSE NEIGHBOUR: 'it returns false'. Refute it at one input. -/
def fnSemverTermsHoldPreWrong : ChangeSpec := { name := "fnSemverTermsHoldPre", fn := fun _ => fun
  | [d1, d2, d3] => { results := [.lit (.bool false)], args := [d1, d2, d3] }
  | _ => none }
def FnSemverTermsHoldPreWrongFalsely : Prop := fnSemverTermsHoldPreRow.holds Tryd.pinned (OpenSpec.ofChange fnSemverTermsHoldPreWrong)

/-- 'laws.FnSemverTermsTurned': WHATEVER THE INPUT: true; the input reads as it did. -/
def fnSemverTermsTurnedSpec : ChangeSpec := { name := "fnSemverTermsTurned", fn := fun _ => fun
  | [d1, d2, d3] => { results := [.lit (.bool true)], args := [d1, d2, d3] }
  | _ => none }
def fnSemverTermsTurnedRow : OpenClaim := { program := "ytalpehfjjidfhaadoor", sum := "c9ca8058d5b6ca8ccec98046829f23801e672334b1e5bed9b94675b8d2c19cd2", func := "pub-timebook/laws.FnSemverTermsTurned", spec := "fnSemverTermsTurned", named := ["strconv.ErrSyntax", "strconv.ErrRange", "internal/strconv.uint64pow10", "math/bits.deBruijn32tab", "math/bits.deBruijn64tab"], apart := false, laid := [("math/bits.deBruijn32tab", laid_math_bits_deBruijn32tab), ("math/bits.deBruijn64tab", laid_math_bits_deBruijn64tab), ("internal/strconv.uint64pow10", laid_internal_strconv_uint64pow10), ("strconv.ErrRange", laid_strconv_ErrRange), ("strconv.ErrSyntax", laid_strconv_ErrSyntax)] }
def FnSemverTermsTurnedSaid : Prop := fnSemverTermsTurnedRow.holds Tryd.pinned (OpenSpec.ofChange fnSemverTermsTurnedSpec)

/-- ITS FALSE NEIGHBOUR: 'it returns false'. Refute it at one input. -/
def fnSemverTermsTurnedWrong : ChangeSpec := { name := "fnSemverTermsTurned", fn := fun _ => fun
  | [d1, d2, d3] => { results := [.lit (.bool false)], args := [d1, d2, d3] }
  | _ => none }
def FnSemverTermsTurnedWrongFalsely : Prop := fnSemverTermsTurnedRow.holds Tryd.pinned (OpenSpec.ofChange fnSemverTermsTurnedWrong)

/- THE SECOND FORM. 'bulk': how many values and letters a reading holds, each counted each time it is reached (what is shared counts as often as it is met; a slice's spare places count too). A statement '..UptoSaid' is the law's where the arguments, and the package variables that the reading takes, are together of bulk at most 1048576: NARROWER than '..Said'. Prove '..Said' where nothing that the law and all that it calls make is longer than what came in: it says more and counts as full. Else prove '..UptoSaid'. A law counts once. -/
mutual
def uptoBulk {H : Type} : DataW H → Nat
  | .lit (.string bytes) => bytes.length + 1
  | .lit _ => 1
  | .nil => 1
  | .ptr d => uptoBulk d + 1
  | .slice elems spare => uptoBulkAll elems + uptoBulkAll spare + 1
  | .agg parts => uptoBulkAll parts + 1
  | .iface _ d => uptoBulk d + 1
  | .map entries => uptoBulkEntries entries + 1
  | .held _ => 1
def uptoBulkAll {H : Type} : List (DataW H) → Nat
  | [] => 0
  | d :: r => uptoBulk d + uptoBulkAll r
def uptoBulkEntries {H : Type} : List (Lit × DataW H) → Nat
  | [] => 0
  | x :: r => uptoBulkEntry x + uptoBulkEntries r
def uptoBulkEntry {H : Type} : Lit × DataW H → Nat
  | (.string bytes, d) => bytes.length + uptoBulk d + 1
  | (_, d) => uptoBulk d + 1
 end
def uptoSmall : (H : Type) → List (DataW H) → Bool := fun _ ds => decide (uptoBulkAll ds ≤ 1048576)
def OpenSpec.upto (s : _root_.Go.ChangeSpec) : _root_.Go.OpenSpec := { _root_.Go.OpenSpec.ofChange s with cond := some uptoSmall }

/-- 'laws.FnSemverPreKindJoin', WHERE WHAT IT READS IS OF BULK AT MOST 1048576: true; the input reads as it did. -/
def fnSemverPreKindJoinUptoRow : OpenClaim := { program := "ytalpehfjjidfhaadoor", sum := "c9ca8058d5b6ca8ccec98046829f23801e672334b1e5bed9b94675b8d2c19cd2", func := "pub-timebook/laws.FnSemverPreKindJoin", spec := "fnSemverPreKindJoin", inPlace := ["internal/reflectlite.TypeOf"], unfollowed := true, recurses := true, named := ["pub-timebook/pub/semver.ErrInvalidPrerelease", "pub-timebook/pub/semver.ErrSegmentStartsZero", "pub-timebook/pub/semver.ErrEmptyString", "pub-timebook/pub/semver.ErrVersionTooLong", "pub-timebook/pub/semver.ErrInvalidCharacters", "pub-timebook/pub/semver.ErrInvalidMetadata", "pub-timebook/pub/semver.ErrInvalidSemVer", "pub-timebook/pub/semver.ErrConstraintTooLong", "pub-timebook/pub/semver.ErrTooManyConstraintGroups"], apart := false, laid := [("pub-timebook/pub/semver.ErrConstraintTooLong", laid_pub_timebook_pub_semver_ErrConstraintTooLong), ("pub-timebook/pub/semver.ErrTooManyConstraintGroups", laid_pub_timebook_pub_semver_ErrTooManyConstraintGroups), ("pub-timebook/pub/semver.ErrInvalidSemVer", laid_pub_timebook_pub_semver_ErrInvalidSemVer), ("pub-timebook/pub/semver.ErrEmptyString", laid_pub_timebook_pub_semver_ErrEmptyString), ("pub-timebook/pub/semver.ErrInvalidCharacters", laid_pub_timebook_pub_semver_ErrInvalidCharacters), ("pub-timebook/pub/semver.ErrSegmentStartsZero", laid_pub_timebook_pub_semver_ErrSegmentStartsZero), ("pub-timebook/pub/semver.ErrInvalidMetadata", laid_pub_timebook_pub_semver_ErrInvalidMetadata), ("pub-timebook/pub/semver.ErrInvalidPrerelease", laid_pub_timebook_pub_semver_ErrInvalidPrerelease), ("pub-timebook/pub/semver.ErrVersionTooLong", laid_pub_timebook_pub_semver_ErrVersionTooLong)], narrowed := true }
def FnSemverPreKindJoinUptoSaid : Prop := fnSemverPreKindJoinUptoRow.holds Tryd.pinned (OpenSpec.upto fnSemverPreKindJoinSpec)

/-- 'laws.FnSemverPreHead', WHERE WHAT IT READS IS OF BULK AT MOST 1048576: true; the input reads as it did. -/
def fnSemverPreHeadUptoRow : OpenClaim := { program := "ytalpehfjjidfhaadoor", sum := "c9ca8058d5b6ca8ccec98046829f23801e672334b1e5bed9b94675b8d2c19cd2", func := "pub-timebook/laws.FnSemverPreHead", spec := "fnSemverPreHead", named := ["strconv.ErrSyntax", "strconv.ErrRange", "internal/strconv.uint64pow10", "math/bits.deBruijn32tab", "math/bits.deBruijn64tab"], apart := false, laid := [("math/bits.deBruijn32tab", laid_math_bits_deBruijn32tab), ("math/bits.deBruijn64tab", laid_math_bits_deBruijn64tab), ("internal/strconv.uint64pow10", laid_internal_strconv_uint64pow10), ("strconv.ErrRange", laid_strconv_ErrRange), ("strconv.ErrSyntax", laid_strconv_ErrSyntax)], narrowed := true }
def FnSemverPreHeadUptoSaid : Prop := fnSemverPreHeadUptoRow.holds Tryd.pinned (OpenSpec.upto fnSemverPreHeadSpec)

/-- 'laws.FnSemverOrder', WHERE WHAT IT READS IS OF BULK AT MOST 1048576: true; the input reads as it did. -/
def fnSemverOrderUptoRow : OpenClaim := { program := "ytalpehfjjidfhaadoor", sum := "c9ca8058d5b6ca8ccec98046829f23801e672334b1e5bed9b94675b8d2c19cd2", func := "pub-timebook/laws.FnSemverOrder", spec := "fnSemverOrder", named := ["strconv.ErrSyntax", "strconv.ErrRange", "internal/strconv.uint64pow10", "math/bits.deBruijn32tab", "math/bits.deBruijn64tab"], apart := false, laid := [("math/bits.deBruijn32tab", laid_math_bits_deBruijn32tab), ("math/bits.deBruijn64tab", laid_math_bits_deBruijn64tab), ("internal/strconv.uint64pow10", laid_internal_strconv_uint64pow10), ("strconv.ErrRange", laid_strconv_ErrRange), ("strconv.ErrSyntax", laid_strconv_ErrSyntax)], narrowed := true }
def FnSemverOrderUptoSaid : Prop := fnSemverOrderUptoRow.holds Tryd.pinned (OpenSpec.upto fnSemverOrderSpec)

/-- 'laws.FnSemverPreNumbers', WHERE WHAT IT READS IS OF BULK AT MOST 1048576: true; the input reads as it did. -/
def fnSemverPreNumbersUptoRow : OpenClaim := { program := "ytalpehfjjidfhaadoor", sum := "c9ca8058d5b6ca8ccec98046829f23801e672334b1e5bed9b94675b8d2c19cd2", func := "pub-timebook/laws.FnSemverPreNumbers", spec := "fnSemverPreNumbers", recurses := true, named := ["strconv.ErrSyntax", "strconv.ErrRange", "internal/strconv.uint64pow10", "math/bits.deBruijn32tab", "math/bits.deBruijn64tab"], apart := false, laid := [("math/bits.deBruijn32tab", laid_math_bits_deBruijn32tab), ("math/bits.deBruijn64tab", laid_math_bits_deBruijn64tab), ("internal/strconv.uint64pow10", laid_internal_strconv_uint64pow10), ("strconv.ErrRange", laid_strconv_ErrRange), ("strconv.ErrSyntax", laid_strconv_ErrSyntax)], narrowed := true }
def FnSemverPreNumbersUptoSaid : Prop := fnSemverPreNumbersUptoRow.holds Tryd.pinned (OpenSpec.upto fnSemverPreNumbersSpec)

/-- 'laws.FnSemverStrictLonger', WHERE WHAT IT READS IS OF BULK AT MOST 1048576: true; the input reads as it did. -/
def fnSemverStrictLongerUptoRow : OpenClaim := { program := "ytalpehfjjidfhaadoor", sum := "c9ca8058d5b6ca8ccec98046829f23801e672334b1e5bed9b94675b8d2c19cd2", func := "pub-timebook/laws.FnSemverStrictLonger", spec := "fnSemverStrictLonger", unfollowed := true, recurses := true, named := ["pub-timebook/pub/semver.ErrEmptyString", "pub-timebook/pub/semver.ErrVersionTooLong", "pub-timebook/pub/semver.ErrInvalidSemVer", "pub-timebook/pub/semver.ErrInvalidCharacters", "pub-timebook/pub/semver.ErrSegmentStartsZero", "pub-timebook/pub/semver.ErrInvalidMetadata", "pub-timebook/pub/semver.ErrInvalidPrerelease", "strconv.ErrSyntax", "strconv.ErrRange", "internal/strconv.uint64pow10", "math/bits.deBruijn32tab", "math/bits.deBruijn64tab"], apart := false, laid := [("math/bits.deBruijn32tab", laid_math_bits_deBruijn32tab), ("math/bits.deBruijn64tab", laid_math_bits_deBruijn64tab), ("internal/strconv.uint64pow10", laid_internal_strconv_uint64pow10), ("strconv.ErrRange", laid_strconv_ErrRange), ("strconv.ErrSyntax", laid_strconv_ErrSyntax), ("pub-timebook/pub/semver.ErrInvalidSemVer", laid_pub_timebook_pub_semver_ErrInvalidSemVer), ("pub-timebook/pub/semver.ErrEmptyString", laid_pub_timebook_pub_semver_ErrEmptyString), ("pub-timebook/pub/semver.ErrInvalidCharacters", laid_pub_timebook_pub_semver_ErrInvalidCharacters), ("pub-timebook/pub/semver.ErrSegmentStartsZero", laid_pub_timebook_pub_semver_ErrSegmentStartsZero), ("pub-timebook/pub/semver.ErrInvalidMetadata", laid_pub_timebook_pub_semver_ErrInvalidMetadata), ("pub-timebook/pub/semver.ErrInvalidPrerelease", laid_pub_timebook_pub_semver_ErrInvalidPrerelease), ("pub-timebook/pub/semver.ErrVersionTooLong", laid_pub_timebook_pub_semver_ErrVersionTooLong)], narrowed := true }
def FnSemverStrictLongerUptoSaid : Prop := fnSemverStrictLongerUptoRow.holds Tryd.pinned (OpenSpec.upto fnSemverStrictLongerSpec)

/-- 'laws.FnSemverStrictReads', WHERE WHAT IT READS IS OF BULK AT MOST 1048576: true; the input reads as it did. -/
def fnSemverStrictReadsUptoRow : OpenClaim := { program := "ytalpehfjjidfhaadoor", sum := "c9ca8058d5b6ca8ccec98046829f23801e672334b1e5bed9b94675b8d2c19cd2", func := "pub-timebook/laws.FnSemverStrictReads", spec := "fnSemverStrictReads", unfollowed := true, recurses := true, named := ["pub-timebook/pub/semver.ErrEmptyString", "pub-timebook/pub/semver.ErrVersionTooLong", "pub-timebook/pub/semver.ErrInvalidSemVer", "pub-timebook/pub/semver.ErrInvalidCharacters", "pub-timebook/pub/semver.ErrSegmentStartsZero", "pub-timebook/pub/semver.ErrInvalidMetadata", "pub-timebook/pub/semver.ErrInvalidPrerelease", "strconv.ErrSyntax", "strconv.ErrRange", "internal/strconv.uint64pow10", "math/bits.deBruijn32tab", "math/bits.deBruijn64tab"], apart := false, laid := [("math/bits.deBruijn32tab", laid_math_bits_deBruijn32tab), ("math/bits.deBruijn64tab", laid_math_bits_deBruijn64tab), ("internal/strconv.uint64pow10", laid_internal_strconv_uint64pow10), ("strconv.ErrRange", laid_strconv_ErrRange), ("strconv.ErrSyntax", laid_strconv_ErrSyntax), ("pub-timebook/pub/semver.ErrInvalidSemVer", laid_pub_timebook_pub_semver_ErrInvalidSemVer), ("pub-timebook/pub/semver.ErrEmptyString", laid_pub_timebook_pub_semver_ErrEmptyString), ("pub-timebook/pub/semver.ErrInvalidCharacters", laid_pub_timebook_pub_semver_ErrInvalidCharacters), ("pub-timebook/pub/semver.ErrSegmentStartsZero", laid_pub_timebook_pub_semver_ErrSegmentStartsZero), ("pub-timebook/pub/semver.ErrInvalidMetadata", laid_pub_timebook_pub_semver_ErrInvalidMetadata), ("pub-timebook/pub/semver.ErrInvalidPrerelease", laid_pub_timebook_pub_semver_ErrInvalidPrerelease), ("pub-timebook/pub/semver.ErrVersionTooLong", laid_pub_timebook_pub_semver_ErrVersionTooLong)], narrowed := true }
def FnSemverStrictReadsUptoSaid : Prop := fnSemverStrictReadsUptoRow.holds Tryd.pinned (OpenSpec.upto fnSemverStrictReadsSpec)

/-- 'laws.FnSemverLeastHolds', WHERE WHAT IT READS IS OF BULK AT MOST 1048576: true; the input reads as it did. -/
def fnSemverLeastHoldsUptoRow : OpenClaim := { program := "ytalpehfjjidfhaadoor", sum := "c9ca8058d5b6ca8ccec98046829f23801e672334b1e5bed9b94675b8d2c19cd2", func := "pub-timebook/laws.FnSemverLeastHolds", spec := "fnSemverLeastHolds", named := ["strconv.ErrSyntax", "strconv.ErrRange", "internal/strconv.uint64pow10", "math/bits.deBruijn32tab", "math/bits.deBruijn64tab"], apart := false, laid := [("math/bits.deBruijn32tab", laid_math_bits_deBruijn32tab), ("math/bits.deBruijn64tab", laid_math_bits_deBruijn64tab), ("internal/strconv.uint64pow10", laid_internal_strconv_uint64pow10), ("strconv.ErrRange", laid_strconv_ErrRange), ("strconv.ErrSyntax", laid_strconv_ErrSyntax)], narrowed := true }
def FnSemverLeastHoldsUptoSaid : Prop := fnSemverLeastHoldsUptoRow.holds Tryd.pinned (OpenSpec.upto fnSemverLeastHoldsSpec)

/-- 'laws.FnSemverLeastCompares', WHERE WHAT IT READS IS OF BULK AT MOST 1048576: true; the input reads as it did. -/
def fnSemverLeastComparesUptoRow : OpenClaim := { program := "ytalpehfjjidfhaadoor", sum := "c9ca8058d5b6ca8ccec98046829f23801e672334b1e5bed9b94675b8d2c19cd2", func := "pub-timebook/laws.FnSemverLeastCompares", spec := "fnSemverLeastCompares", named := ["strconv.ErrSyntax", "strconv.ErrRange", "internal/strconv.uint64pow10", "math/bits.deBruijn32tab", "math/bits.deBruijn64tab"], apart := false, laid := [("math/bits.deBruijn32tab", laid_math_bits_deBruijn32tab), ("math/bits.deBruijn64tab", laid_math_bits_deBruijn64tab), ("internal/strconv.uint64pow10", laid_internal_strconv_uint64pow10), ("strconv.ErrRange", laid_strconv_ErrRange), ("strconv.ErrSyntax", laid_strconv_ErrSyntax)], narrowed := true }
def FnSemverLeastComparesUptoSaid : Prop := fnSemverLeastComparesUptoRow.holds Tryd.pinned (OpenSpec.upto fnSemverLeastComparesSpec)

/-- 'laws.FnSemverStrictKindParts', WHERE WHAT IT READS IS OF BULK AT MOST 1048576: true; the input reads as it did. -/
def fnSemverStrictKindPartsUptoRow : OpenClaim := { program := "ytalpehfjjidfhaadoor", sum := "c9ca8058d5b6ca8ccec98046829f23801e672334b1e5bed9b94675b8d2c19cd2", func := "pub-timebook/laws.FnSemverStrictKindParts", spec := "fnSemverStrictKindParts", inPlace := ["internal/reflectlite.TypeOf"], unfollowed := true, recurses := true, named := ["pub-timebook/pub/semver.ErrInvalidPrerelease", "pub-timebook/pub/semver.ErrSegmentStartsZero", "pub-timebook/pub/semver.ErrEmptyString", "pub-timebook/pub/semver.ErrVersionTooLong", "pub-timebook/pub/semver.ErrInvalidCharacters", "pub-timebook/pub/semver.ErrInvalidMetadata", "pub-timebook/pub/semver.ErrInvalidSemVer", "pub-timebook/pub/semver.ErrConstraintTooLong", "pub-timebook/pub/semver.ErrTooManyConstraintGroups", "strconv.ErrSyntax", "strconv.ErrRange", "internal/strconv.uint64pow10", "math/bits.deBruijn32tab", "math/bits.deBruijn64tab"], apart := false, laid := [("math/bits.deBruijn32tab", laid_math_bits_deBruijn32tab), ("math/bits.deBruijn64tab", laid_math_bits_deBruijn64tab), ("internal/strconv.uint64pow10", laid_internal_strconv_uint64pow10), ("strconv.ErrRange", laid_strconv_ErrRange), ("strconv.ErrSyntax", laid_strconv_ErrSyntax), ("pub-timebook/pub/semver.ErrConstraintTooLong", laid_pub_timebook_pub_semver_ErrConstraintTooLong), ("pub-timebook/pub/semver.ErrTooManyConstraintGroups", laid_pub_timebook_pub_semver_ErrTooManyConstraintGroups), ("pub-timebook/pub/semver.ErrInvalidSemVer", laid_pub_timebook_pub_semver_ErrInvalidSemVer), ("pub-timebook/pub/semver.ErrEmptyString", laid_pub_timebook_pub_semver_ErrEmptyString), ("pub-timebook/pub/semver.ErrInvalidCharacters", laid_pub_timebook_pub_semver_ErrInvalidCharacters), ("pub-timebook/pub/semver.ErrSegmentStartsZero", laid_pub_timebook_pub_semver_ErrSegmentStartsZero), ("pub-timebook/pub/semver.ErrInvalidMetadata", laid_pub_timebook_pub_semver_ErrInvalidMetadata), ("pub-timebook/pub/semver.ErrInvalidPrerelease", laid_pub_timebook_pub_semver_ErrInvalidPrerelease), ("pub-timebook/pub/semver.ErrVersionTooLong", laid_pub_timebook_pub_semver_ErrVersionTooLong)], narrowed := true }
def FnSemverStrictKindPartsUptoSaid : Prop := fnSemverStrictKindPartsUptoRow.holds Tryd.pinned (OpenSpec.upto fnSemverStrictKindPartsSpec)

/-- 'laws.FnSemverSetPrints', WHERE WHAT IT READS IS OF BULK AT MOST 1048576: true; the input reads as it did. -/
def fnSemverSetPrintsUptoRow : OpenClaim := { program := "ytalpehfjjidfhaadoor", sum := "c9ca8058d5b6ca8ccec98046829f23801e672334b1e5bed9b94675b8d2c19cd2", func := "pub-timebook/laws.FnSemverSetPrints", spec := "fnSemverSetPrints", unfollowed := true, recurses := true, named := ["pub-timebook/pub/semver.ErrInvalidPrerelease", "pub-timebook/pub/semver.ErrSegmentStartsZero", "internal/strconv.uint64pow10", "math/bits.deBruijn32tab", "math/bits.deBruijn64tab", "pub-timebook/pub/semver.ErrInvalidMetadata", "pub-timebook/pub/semver.ErrEmptyString", "pub-timebook/pub/semver.ErrVersionTooLong", "pub-timebook/pub/semver.ErrInvalidSemVer", "pub-timebook/pub/semver.ErrInvalidCharacters", "strconv.ErrSyntax", "strconv.ErrRange"], apart := false, laid := [("math/bits.deBruijn32tab", laid_math_bits_deBruijn32tab), ("math/bits.deBruijn64tab", laid_math_bits_deBruijn64tab), ("internal/strconv.uint64pow10", laid_internal_strconv_uint64pow10), ("strconv.ErrRange", laid_strconv_ErrRange), ("strconv.ErrSyntax", laid_strconv_ErrSyntax), ("pub-timebook/pub/semver.ErrInvalidSemVer", laid_pub_timebook_pub_semver_ErrInvalidSemVer), ("pub-timebook/pub/semver.ErrEmptyString", laid_pub_timebook_pub_semver_ErrEmptyString), ("pub-timebook/pub/semver.ErrInvalidCharacters", laid_pub_timebook_pub_semver_ErrInvalidCharacters), ("pub-timebook/pub/semver.ErrSegmentStartsZero", laid_pub_timebook_pub_semver_ErrSegmentStartsZero), ("pub-timebook/pub/semver.ErrInvalidMetadata", laid_pub_timebook_pub_semver_ErrInvalidMetadata), ("pub-timebook/pub/semver.ErrInvalidPrerelease", laid_pub_timebook_pub_semver_ErrInvalidPrerelease), ("pub-timebook/pub/semver.ErrVersionTooLong", laid_pub_timebook_pub_semver_ErrVersionTooLong)], narrowed := true }
def FnSemverSetPrintsUptoSaid : Prop := fnSemverSetPrintsUptoRow.holds Tryd.pinned (OpenSpec.upto fnSemverSetPrintsSpec)

/-- 'laws.FnSemverEqualWild', WHERE WHAT IT READS IS OF BULK AT MOST 1048576: true; the input reads as it did. -/
def fnSemverEqualWildUptoRow : OpenClaim := { program := "ytalpehfjjidfhaadoor", sum := "c9ca8058d5b6ca8ccec98046829f23801e672334b1e5bed9b94675b8d2c19cd2", func := "pub-timebook/laws.FnSemverEqualWild", spec := "fnSemverEqualWild", named := ["strconv.ErrSyntax", "strconv.ErrRange", "internal/strconv.uint64pow10", "math/bits.deBruijn32tab", "math/bits.deBruijn64tab"], apart := false, laid := [("math/bits.deBruijn32tab", laid_math_bits_deBruijn32tab), ("math/bits.deBruijn64tab", laid_math_bits_deBruijn64tab), ("internal/strconv.uint64pow10", laid_internal_strconv_uint64pow10), ("strconv.ErrRange", laid_strconv_ErrRange), ("strconv.ErrSyntax", laid_strconv_ErrSyntax)], narrowed := true }
def FnSemverEqualWildUptoSaid : Prop := fnSemverEqualWildUptoRow.holds Tryd.pinned (OpenSpec.upto fnSemverEqualWildSpec)

/-- 'laws.FnSemverIncSteps', WHERE WHAT IT READS IS OF BULK AT MOST 1048576: true; the input reads as it did. -/
def fnSemverIncStepsUptoRow : OpenClaim := { program := "ytalpehfjjidfhaadoor", sum := "c9ca8058d5b6ca8ccec98046829f23801e672334b1e5bed9b94675b8d2c19cd2", func := "pub-timebook/laws.FnSemverIncSteps", spec := "fnSemverIncSteps", named := ["internal/strconv.uint64pow10", "math/bits.deBruijn32tab", "math/bits.deBruijn64tab", "strconv.ErrSyntax", "strconv.ErrRange"], apart := false, laid := [("math/bits.deBruijn32tab", laid_math_bits_deBruijn32tab), ("math/bits.deBruijn64tab", laid_math_bits_deBruijn64tab), ("internal/strconv.uint64pow10", laid_internal_strconv_uint64pow10), ("strconv.ErrRange", laid_strconv_ErrRange), ("strconv.ErrSyntax", laid_strconv_ErrSyntax)], narrowed := true }
def FnSemverIncStepsUptoSaid : Prop := fnSemverIncStepsUptoRow.holds Tryd.pinned (OpenSpec.upto fnSemverIncStepsSpec)

/-- 'laws.FnSemverTermCaretTilde', WHERE WHAT IT READS IS OF BULK AT MOST 1048576: true; the input reads as it did. -/
def fnSemverTermCaretTildeUptoRow : OpenClaim := { program := "ytalpehfjjidfhaadoor", sum := "c9ca8058d5b6ca8ccec98046829f23801e672334b1e5bed9b94675b8d2c19cd2", func := "pub-timebook/laws.FnSemverTermCaretTilde", spec := "fnSemverTermCaretTilde", named := ["strconv.ErrSyntax", "strconv.ErrRange", "internal/strconv.uint64pow10", "math/bits.deBruijn32tab", "math/bits.deBruijn64tab"], apart := false, laid := [("math/bits.deBruijn32tab", laid_math_bits_deBruijn32tab), ("math/bits.deBruijn64tab", laid_math_bits_deBruijn64tab), ("internal/strconv.uint64pow10", laid_internal_strconv_uint64pow10), ("strconv.ErrRange", laid_strconv_ErrRange), ("strconv.ErrSyntax", laid_strconv_ErrSyntax)], narrowed := true }
def FnSemverTermCaretTildeUptoSaid : Prop := fnSemverTermCaretTildeUptoRow.holds Tryd.pinned (OpenSpec.upto fnSemverTermCaretTildeSpec)

/-- 'laws.FnSemverTermDown', WHERE WHAT IT READS IS OF BULK AT MOST 1048576: true; the input reads as it did. -/
def fnSemverTermDownUptoRow : OpenClaim := { program := "ytalpehfjjidfhaadoor", sum := "c9ca8058d5b6ca8ccec98046829f23801e672334b1e5bed9b94675b8d2c19cd2", func := "pub-timebook/laws.FnSemverTermDown", spec := "fnSemverTermDown", named := ["strconv.ErrSyntax", "strconv.ErrRange", "internal/strconv.uint64pow10", "math/bits.deBruijn32tab", "math/bits.deBruijn64tab"], apart := false, laid := [("math/bits.deBruijn32tab", laid_math_bits_deBruijn32tab), ("math/bits.deBruijn64tab", laid_math_bits_deBruijn64tab), ("internal/strconv.uint64pow10", laid_internal_strconv_uint64pow10), ("strconv.ErrRange", laid_strconv_ErrRange), ("strconv.ErrSyntax", laid_strconv_ErrSyntax)], narrowed := true }
def FnSemverTermDownUptoSaid : Prop := fnSemverTermDownUptoRow.holds Tryd.pinned (OpenSpec.upto fnSemverTermDownSpec)

/-- 'laws.FnSemverComplement', WHERE WHAT IT READS IS OF BULK AT MOST 1048576: true; the input reads as it did. -/
def fnSemverComplementUptoRow : OpenClaim := { program := "ytalpehfjjidfhaadoor", sum := "c9ca8058d5b6ca8ccec98046829f23801e672334b1e5bed9b94675b8d2c19cd2", func := "pub-timebook/laws.FnSemverComplement", spec := "fnSemverComplement", named := ["strconv.ErrSyntax", "strconv.ErrRange", "internal/strconv.uint64pow10", "math/bits.deBruijn32tab", "math/bits.deBruijn64tab"], apart := false, laid := [("math/bits.deBruijn32tab", laid_math_bits_deBruijn32tab), ("math/bits.deBruijn64tab", laid_math_bits_deBruijn64tab), ("internal/strconv.uint64pow10", laid_internal_strconv_uint64pow10), ("strconv.ErrRange", laid_strconv_ErrRange), ("strconv.ErrSyntax", laid_strconv_ErrSyntax)], narrowed := true }
def FnSemverComplementUptoSaid : Prop := fnSemverComplementUptoRow.holds Tryd.pinned (OpenSpec.upto fnSemverComplementSpec)

/-- 'laws.FnSemverLanding', WHERE WHAT IT READS IS OF BULK AT MOST 1048576: true; the input reads as it did. -/
def fnSemverLandingUptoRow : OpenClaim := { program := "ytalpehfjjidfhaadoor", sum := "c9ca8058d5b6ca8ccec98046829f23801e672334b1e5bed9b94675b8d2c19cd2", func := "pub-timebook/laws.FnSemverLanding", spec := "fnSemverLanding", named := ["strconv.ErrSyntax", "strconv.ErrRange", "internal/strconv.uint64pow10", "math/bits.deBruijn32tab", "math/bits.deBruijn64tab"], apart := false, laid := [("math/bits.deBruijn32tab", laid_math_bits_deBruijn32tab), ("math/bits.deBruijn64tab", laid_math_bits_deBruijn64tab), ("internal/strconv.uint64pow10", laid_internal_strconv_uint64pow10), ("strconv.ErrRange", laid_strconv_ErrRange), ("strconv.ErrSyntax", laid_strconv_ErrSyntax)], narrowed := true }
def FnSemverLandingUptoSaid : Prop := fnSemverLandingUptoRow.holds Tryd.pinned (OpenSpec.upto fnSemverLandingSpec)

/-- 'laws.FnSemverTermsHoldPre', WHERE WHAT IT READS IS OF BULK AT MOST 1048576: true; the input reads as it did. -/
def fnSemverTermsHoldPreUptoRow : OpenClaim := { program := "ytalpehfjjidfhaadoor", sum := "c9ca8058d5b6ca8ccec98046829f23801e672334b1e5bed9b94675b8d2c19cd2", func := "pub-timebook/laws.FnSemverTermsHoldPre", spec := "fnSemverTermsHoldPre", named := ["strconv.ErrSyntax", "strconv.ErrRange", "internal/strconv.uint64pow10", "math/bits.deBruijn32tab", "math/bits.deBruijn64tab"], apart := false, laid := [("math/bits.deBruijn32tab", laid_math_bits_deBruijn32tab), ("math/bits.deBruijn64tab", laid_math_bits_deBruijn64tab), ("internal/strconv.uint64pow10", laid_internal_strconv_uint64pow10), ("strconv.ErrRange", laid_strconv_ErrRange), ("strconv.ErrSyntax", laid_strconv_ErrSyntax)], narrowed := true }
def FnSemverTermsHoldPreUptoSaid : Prop := fnSemverTermsHoldPreUptoRow.holds Tryd.pinned (OpenSpec.upto fnSemverTermsHoldPreSpec)

/-- 'laws.FnSemverTermsTurned', WHERE WHAT IT READS IS OF BULK AT MOST 1048576: true; the input reads as it did. -/
def fnSemverTermsTurnedUptoRow : OpenClaim := { program := "ytalpehfjjidfhaadoor", sum := "c9ca8058d5b6ca8ccec98046829f23801e672334b1e5bed9b94675b8d2c19cd2", func := "pub-timebook/laws.FnSemverTermsTurned", spec := "fnSemverTermsTurned", named := ["strconv.ErrSyntax", "strconv.ErrRange", "internal/strconv.uint64pow10", "math/bits.deBruijn32tab", "math/bits.deBruijn64tab"], apart := false, laid := [("math/bits.deBruijn32tab", laid_math_bits_deBruijn32tab), ("math/bits.deBruijn64tab", laid_math_bits_deBruijn64tab), ("internal/strconv.uint64pow10", laid_internal_strconv_uint64pow10), ("strconv.ErrRange", laid_strconv_ErrRange), ("strconv.ErrSyntax", laid_strconv_ErrSyntax)], narrowed := true }
def FnSemverTermsTurnedUptoSaid : Prop := fnSemverTermsTurnedUptoRow.holds Tryd.pinned (OpenSpec.upto fnSemverTermsTurnedSpec)

end Rows
end Go.Proofs.YtalpehfjjidfhaaDoor
