/-
  No cell of these rows narrows 'for every input' (looked for: loops, veiled, ifaces, maps, wideKeys, modest, calm, conditions, laid).
  DERIVED. THE GIVEN ROWS OF THIS SEAT. 8 by the template 'for every input the law returns true; each argument reads behind the call as it read before'; 0 by the template 'total and deterministic' (their statements: YtlgdaegaahnkbaaTotals.lean).
  GIVEN WITH THE SEED: the statements are not yours to turn. If you find one false, say at which input.
  Laid BY PROGRAM, IN A SANDBOX (cutbox-rows.mjs): the forced cells as the released guide's own fill.sh prints them over the translation b81cf100f51176f0… (all of the seat's roots in one cut). By AI agents, Wed Nov 11 2026. No macro, syntax, notation, axiom, sorry.
-/
import Derived.Test.YtlgdaegaahnkbaaChecked
import GoSem.Claim
import GoSem.ClaimJoined
import GoSem.ClaimMapViews
import Derived.JoinedTies
import Derived.KernelRfl
namespace Go.Proofs.Ytlgdaegaahnkbaa
/- THE CELL 'sum', in the pinned program and in every row, IS THE sha256 OF THE DUMP (.gsa) THAT YtlgdaegaahnkbaaProg.lean LOADS. Nothing in Lean hashes anything: it is a label: what it is worth is what the hold of that sum in a sandbox is worth. -/
noncomputable def Try.pinned : Pinned := { name := "ytlgdaegaahnkbaa", sum := "b81cf100f51176f009a49a0dac02efd9d67e57b890c58cd13edc4e71e0522f10", checked := Try.checked }
namespace Rows
def none {H : Type} : Left H := { results := [], args := [] }

/-- 'laws.FnCronNextFits': WHATEVER THE INPUT: true; the input reads as it did. -/
def fnCronNextFitsSpec : ChangeSpec := { name := "fnCronNextFits", fn := fun _ => fun
  | [d1, d2, d3] => { results := [.lit (.bool true)], args := [d1, d2, d3] }
  | _ => none }
def fnCronNextFitsRow : OpenClaim := { program := "ytlgdaegaahnkbaa", sum := "b81cf100f51176f009a49a0dac02efd9d67e57b890c58cd13edc4e71e0522f10", func := "pub-timebook/laws.FnCronNextFits", spec := "fnCronNextFits", unfollowed := true, recurses := true, apart := false }
def FnCronNextFitsSaid : Prop := fnCronNextFitsRow.holds Try.pinned (OpenSpec.ofChange fnCronNextFitsSpec)

/-- ITS FALSE NEIGHBOUR: 'it returns false'. Refute it at one input. -/
def fnCronNextFitsWrong : ChangeSpec := { name := "fnCronNextFits", fn := fun _ => fun
  | [d1, d2, d3] => { results := [.lit (.bool false)], args := [d1, d2, d3] }
  | _ => none }
def FnCronNextFitsWrongFalsely : Prop := fnCronNextFitsRow.holds Try.pinned (OpenSpec.ofChange fnCronNextFitsWrong)

/-- 'laws.FnCronNextUnion': WHATEVER THE INPUT: true; the input reads as it did. -/
def fnCronNextUnionSpec : ChangeSpec := { name := "fnCronNextUnion", fn := fun _ => fun
  | [d1, d2, d3, d4, d5] => { results := [.lit (.bool true)], args := [d1, d2, d3, d4, d5] }
  | _ => none }
def fnCronNextUnionRow : OpenClaim := { program := "ytlgdaegaahnkbaa", sum := "b81cf100f51176f009a49a0dac02efd9d67e57b890c58cd13edc4e71e0522f10", func := "pub-timebook/laws.FnCronNextUnion", spec := "fnCronNextUnion", unfollowed := true, recurses := true, apart := false }
def FnCronNextUnionSaid : Prop := fnCronNextUnionRow.holds Try.pinned (OpenSpec.ofChange fnCronNextUnionSpec)

/-- ITS FALSE NEIGHBOUR: 'it returns false'. Refute it at one input. -/
def fnCronNextUnionWrong : ChangeSpec := { name := "fnCronNextUnion", fn := fun _ => fun
  | [d1, d2, d3, d4, d5] => { results := [.lit (.bool false)], args := [d1, d2, d3, d4, d5] }
  | _ => none }
def FnCronNextUnionWrongFalsely : Prop := fnCronNextUnionRow.holds Try.pinned (OpenSpec.ofChange fnCronNextUnionWrong)

/-- 'laws.FnCronNextMeet': WHATEVER THE INPUT: true; the input reads as it did. -/
def fnCronNextMeetSpec : ChangeSpec := { name := "fnCronNextMeet", fn := fun _ => fun
  | [d1, d2, d3, d4, d5] => { results := [.lit (.bool true)], args := [d1, d2, d3, d4, d5] }
  | _ => none }
def fnCronNextMeetRow : OpenClaim := { program := "ytlgdaegaahnkbaa", sum := "b81cf100f51176f009a49a0dac02efd9d67e57b890c58cd13edc4e71e0522f10", func := "pub-timebook/laws.FnCronNextMeet", spec := "fnCronNextMeet", unfollowed := true, recurses := true, apart := false }
def FnCronNextMeetSaid : Prop := fnCronNextMeetRow.holds Try.pinned (OpenSpec.ofChange fnCronNextMeetSpec)

/-- ITS FALSE NEIGHBOUR: 'it returns false'. Refute it at one input. -/
def fnCronNextMeetWrong : ChangeSpec := { name := "fnCronNextMeet", fn := fun _ => fun
  | [d1, d2, d3, d4, d5] => { results := [.lit (.bool false)], args := [d1, d2, d3, d4, d5] }
  | _ => none }
def FnCronNextMeetWrongFalsely : Prop := fnCronNextMeetRow.holds Try.pinned (OpenSpec.ofChange fnCronNextMeetWrong)

/-- 'laws.FnCronNextSplit': WHATEVER THE INPUT: true; the input reads as it did. -/
def fnCronNextSplitSpec : ChangeSpec := { name := "fnCronNextSplit", fn := fun _ => fun
  | [d1, d2, d3, d4] => { results := [.lit (.bool true)], args := [d1, d2, d3, d4] }
  | _ => none }
def fnCronNextSplitRow : OpenClaim := { program := "ytlgdaegaahnkbaa", sum := "b81cf100f51176f009a49a0dac02efd9d67e57b890c58cd13edc4e71e0522f10", func := "pub-timebook/laws.FnCronNextSplit", spec := "fnCronNextSplit", unfollowed := true, recurses := true, apart := false }
def FnCronNextSplitSaid : Prop := fnCronNextSplitRow.holds Try.pinned (OpenSpec.ofChange fnCronNextSplitSpec)

/-- ITS FALSE NEIGHBOUR: 'it returns false'. Refute it at one input. -/
def fnCronNextSplitWrong : ChangeSpec := { name := "fnCronNextSplit", fn := fun _ => fun
  | [d1, d2, d3, d4] => { results := [.lit (.bool false)], args := [d1, d2, d3, d4] }
  | _ => none }
def FnCronNextSplitWrongFalsely : Prop := fnCronNextSplitRow.holds Try.pinned (OpenSpec.ofChange fnCronNextSplitWrong)

/-- 'laws.FnCronCountBetween': WHATEVER THE INPUT: true; the input reads as it did. -/
def fnCronCountBetweenSpec : ChangeSpec := { name := "fnCronCountBetween", fn := fun _ => fun
  | [d1, d2, d3] => { results := [.lit (.bool true)], args := [d1, d2, d3] }
  | _ => none }
def fnCronCountBetweenRow : OpenClaim := { program := "ytlgdaegaahnkbaa", sum := "b81cf100f51176f009a49a0dac02efd9d67e57b890c58cd13edc4e71e0522f10", func := "pub-timebook/laws.FnCronCountBetween", spec := "fnCronCountBetween", unfollowed := true, recurses := true, apart := false }
def FnCronCountBetweenSaid : Prop := fnCronCountBetweenRow.holds Try.pinned (OpenSpec.ofChange fnCronCountBetweenSpec)

/-- ITS FALSE NEIGHBOUR: 'it returns false'. Refute it at one input. -/
def fnCronCountBetweenWrong : ChangeSpec := { name := "fnCronCountBetween", fn := fun _ => fun
  | [d1, d2, d3] => { results := [.lit (.bool false)], args := [d1, d2, d3] }
  | _ => none }
def FnCronCountBetweenWrongFalsely : Prop := fnCronCountBetweenRow.holds Try.pinned (OpenSpec.ofChange fnCronCountBetweenWrong)

/-- 'laws.FnCronAlike': WHATEVER THE INPUT: true; the input reads as it did. -/
def fnCronAlikeSpec : ChangeSpec := { name := "fnCronAlike", fn := fun _ => fun
  | [d1, d2, d3] => { results := [.lit (.bool true)], args := [d1, d2, d3] }
  | _ => none }
def fnCronAlikeRow : OpenClaim := { program := "ytlgdaegaahnkbaa", sum := "b81cf100f51176f009a49a0dac02efd9d67e57b890c58cd13edc4e71e0522f10", func := "pub-timebook/laws.FnCronAlike", spec := "fnCronAlike", unfollowed := true, recurses := true, apart := false }
def FnCronAlikeSaid : Prop := fnCronAlikeRow.holds Try.pinned (OpenSpec.ofChange fnCronAlikeSpec)

/-- ITS FALSE NEIGHBOUR: 'it returns false'. Refute it at one input. -/
def fnCronAlikeWrong : ChangeSpec := { name := "fnCronAlike", fn := fun _ => fun
  | [d1, d2, d3] => { results := [.lit (.bool false)], args := [d1, d2, d3] }
  | _ => none }
def FnCronAlikeWrongFalsely : Prop := fnCronAlikeRow.holds Try.pinned (OpenSpec.ofChange fnCronAlikeWrong)

/-- 'laws.FnCronNextCivil': WHATEVER THE INPUT: true; the input reads as it did. -/
def fnCronNextCivilSpec : ChangeSpec := { name := "fnCronNextCivil", fn := fun _ => fun
  | [d1, d2, d3] => { results := [.lit (.bool true)], args := [d1, d2, d3] }
  | _ => none }
def fnCronNextCivilRow : OpenClaim := { program := "ytlgdaegaahnkbaa", sum := "b81cf100f51176f009a49a0dac02efd9d67e57b890c58cd13edc4e71e0522f10", func := "pub-timebook/laws.FnCronNextCivil", spec := "fnCronNextCivil", unfollowed := true, recurses := true, apart := false }
def FnCronNextCivilSaid : Prop := fnCronNextCivilRow.holds Try.pinned (OpenSpec.ofChange fnCronNextCivilSpec)

/-- ITS FALSE NEIGHBOUR: 'it returns false'. Refute it at one input. -/
def fnCronNextCivilWrong : ChangeSpec := { name := "fnCronNextCivil", fn := fun _ => fun
  | [d1, d2, d3] => { results := [.lit (.bool false)], args := [d1, d2, d3] }
  | _ => none }
def FnCronNextCivilWrongFalsely : Prop := fnCronNextCivilRow.holds Try.pinned (OpenSpec.ofChange fnCronNextCivilWrong)

/-- 'laws.FnCronWindow': WHATEVER THE INPUT: true; the input reads as it did. -/
def fnCronWindowSpec : ChangeSpec := { name := "fnCronWindow", fn := fun _ => fun
  | [d1, d2, d3, d4] => { results := [.lit (.bool true)], args := [d1, d2, d3, d4] }
  | _ => none }
def fnCronWindowRow : OpenClaim := { program := "ytlgdaegaahnkbaa", sum := "b81cf100f51176f009a49a0dac02efd9d67e57b890c58cd13edc4e71e0522f10", func := "pub-timebook/laws.FnCronWindow", spec := "fnCronWindow", unfollowed := true, recurses := true, apart := false }
def FnCronWindowSaid : Prop := fnCronWindowRow.holds Try.pinned (OpenSpec.ofChange fnCronWindowSpec)

/-- ITS FALSE NEIGHBOUR: 'it returns false'. Refute it at one input. -/
def fnCronWindowWrong : ChangeSpec := { name := "fnCronWindow", fn := fun _ => fun
  | [d1, d2, d3, d4] => { results := [.lit (.bool false)], args := [d1, d2, d3, d4] }
  | _ => none }
def FnCronWindowWrongFalsely : Prop := fnCronWindowRow.holds Try.pinned (OpenSpec.ofChange fnCronWindowWrong)

/- THE SECOND FORM. 'bulk': how many values and letters a reading holds, each counted each time it is reached (what is shared counts as often as it is met; a slice's spare places count too). A statement '..UptoSaid' is the law's where the arguments, and the package variables that the reading takes, are together of bulk at most 1048576: NARROWER than '..Said'. Prove '..Said' where nothing that the law and all that it calls make is longer than what came in: it says more and counts as full. Else prove '..UptoSaid'. A law counts once. -/
mutual
def uptoBulk {H : Type} : DataW H → Nat
  | .lit (.string bytes) => bytes.length + 1
  | .lit _ => 1
  | .nil => 1
  | .ptr d => uptoBulk d + 1
  | .slice elems spare => uptoBulkAll elems + uptoBulkAll spare + 1
  | .agg parts => uptoBulkAll parts + 1
  | .iface _ d => uptoBulk d + 1
  | .map entries => uptoBulkEntries entries + 1
  | .held _ => 1
def uptoBulkAll {H : Type} : List (DataW H) → Nat
  | [] => 0
  | d :: r => uptoBulk d + uptoBulkAll r
def uptoBulkEntries {H : Type} : List (Lit × DataW H) → Nat
  | [] => 0
  | x :: r => uptoBulkEntry x + uptoBulkEntries r
def uptoBulkEntry {H : Type} : Lit × DataW H → Nat
  | (.string bytes, d) => bytes.length + uptoBulk d + 1
  | (_, d) => uptoBulk d + 1
 end
def uptoSmall : (H : Type) → List (DataW H) → Bool := fun _ ds => decide (uptoBulkAll ds ≤ 1048576)
def OpenSpec.upto (s : _root_.Go.ChangeSpec) : _root_.Go.OpenSpec := { _root_.Go.OpenSpec.ofChange s with cond := some uptoSmall }

/-- 'laws.FnCronNextFits', WHERE WHAT IT READS IS OF BULK AT MOST 1048576: true; the input reads as it did. -/
def fnCronNextFitsUptoRow : OpenClaim := { program := "ytlgdaegaahnkbaa", sum := "b81cf100f51176f009a49a0dac02efd9d67e57b890c58cd13edc4e71e0522f10", func := "pub-timebook/laws.FnCronNextFits", spec := "fnCronNextFits", unfollowed := true, recurses := true, apart := false, narrowed := true }
def FnCronNextFitsUptoSaid : Prop := fnCronNextFitsUptoRow.holds Try.pinned (OpenSpec.upto fnCronNextFitsSpec)

/-- 'laws.FnCronNextUnion', WHERE WHAT IT READS IS OF BULK AT MOST 1048576: true; the input reads as it did. -/
def fnCronNextUnionUptoRow : OpenClaim := { program := "ytlgdaegaahnkbaa", sum := "b81cf100f51176f009a49a0dac02efd9d67e57b890c58cd13edc4e71e0522f10", func := "pub-timebook/laws.FnCronNextUnion", spec := "fnCronNextUnion", unfollowed := true, recurses := true, apart := false, narrowed := true }
def FnCronNextUnionUptoSaid : Prop := fnCronNextUnionUptoRow.holds Try.pinned (OpenSpec.upto fnCronNextUnionSpec)

/-- 'laws.FnCronNextMeet', WHERE WHAT IT READS IS OF BULK AT MOST 1048576: true; the input reads as it did. -/
def fnCronNextMeetUptoRow : OpenClaim := { program := "ytlgdaegaahnkbaa", sum := "b81cf100f51176f009a49a0dac02efd9d67e57b890c58cd13edc4e71e0522f10", func := "pub-timebook/laws.FnCronNextMeet", spec := "fnCronNextMeet", unfollowed := true, recurses := true, apart := false, narrowed := true }
def FnCronNextMeetUptoSaid : Prop := fnCronNextMeetUptoRow.holds Try.pinned (OpenSpec.upto fnCronNextMeetSpec)

/-- 'laws.FnCronNextSplit', WHERE WHAT IT READS IS OF BULK AT MOST 1048576: true; the input reads as it did. -/
def fnCronNextSplitUptoRow : OpenClaim := { program := "ytlgdaegaahnkbaa", sum := "b81cf100f51176f009a49a0dac02efd9d67e57b890c58cd13edc4e71e0522f10", func := "pub-timebook/laws.FnCronNextSplit", spec := "fnCronNextSplit", unfollowed := true, recurses := true, apart := false, narrowed := true }
def FnCronNextSplitUptoSaid : Prop := fnCronNextSplitUptoRow.holds Try.pinned (OpenSpec.upto fnCronNextSplitSpec)

/-- 'laws.FnCronCountBetween', WHERE WHAT IT READS IS OF BULK AT MOST 1048576: true; the input reads as it did. -/
def fnCronCountBetweenUptoRow : OpenClaim := { program := "ytlgdaegaahnkbaa", sum := "b81cf100f51176f009a49a0dac02efd9d67e57b890c58cd13edc4e71e0522f10", func := "pub-timebook/laws.FnCronCountBetween", spec := "fnCronCountBetween", unfollowed := true, recurses := true, apart := false, narrowed := true }
def FnCronCountBetweenUptoSaid : Prop := fnCronCountBetweenUptoRow.holds Try.pinned (OpenSpec.upto fnCronCountBetweenSpec)

/-- 'laws.FnCronAlike', WHERE WHAT IT READS IS OF BULK AT MOST 1048576: true; the input reads as it did. -/
def fnCronAlikeUptoRow : OpenClaim := { program := "ytlgdaegaahnkbaa", sum := "b81cf100f51176f009a49a0dac02efd9d67e57b890c58cd13edc4e71e0522f10", func := "pub-timebook/laws.FnCronAlike", spec := "fnCronAlike", unfollowed := true, recurses := true, apart := false, narrowed := true }
def FnCronAlikeUptoSaid : Prop := fnCronAlikeUptoRow.holds Try.pinned (OpenSpec.upto fnCronAlikeSpec)

/-- 'laws.FnCronNextCivil', WHERE WHAT IT READS IS OF BULK AT MOST 1048576: true; the input reads as it did. -/
def fnCronNextCivilUptoRow : OpenClaim := { program := "ytlgdaegaahnkbaa", sum := "b81cf100f51176f009a49a0dac02efd9d67e57b890c58cd13edc4e71e0522f10", func := "pub-timebook/laws.FnCronNextCivil", spec := "fnCronNextCivil", unfollowed := true, recurses := true, apart := false, narrowed := true }
def FnCronNextCivilUptoSaid : Prop := fnCronNextCivilUptoRow.holds Try.pinned (OpenSpec.upto fnCronNextCivilSpec)

/-- 'laws.FnCronWindow', WHERE WHAT IT READS IS OF BULK AT MOST 1048576: true; the input reads as it did. -/
def fnCronWindowUptoRow : OpenClaim := { program := "ytlgdaegaahnkbaa", sum := "b81cf100f51176f009a49a0dac02efd9d67e57b890c58cd13edc4e71e0522f10", func := "pub-timebook/laws.FnCronWindow", spec := "fnCronWindow", unfollowed := true, recurses := true, apart := false, narrowed := true }
def FnCronWindowUptoSaid : Prop := fnCronWindowUptoRow.holds Try.pinned (OpenSpec.upto fnCronWindowSpec)

end Rows
end Go.Proofs.Ytlgdaegaahnkbaa
