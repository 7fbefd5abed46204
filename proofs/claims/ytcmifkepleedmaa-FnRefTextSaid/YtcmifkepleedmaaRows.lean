/-
  No cell of these rows narrows 'for every input' (looked for: loops, veiled, ifaces, maps, wideKeys, modest, calm, conditions, laid).
  DERIVED. THE GIVEN ROWS OF THIS SEAT. 6 by the template 'for every input the law returns true; each argument reads behind the call as it read before'; 0 by the template 'total and deterministic' (their statements: YtcmifkepleedmaaTotals.lean).
  GIVEN WITH THE SEED: the statements are not yours to turn. If you find one false, say at which input.
  Laid BY PROGRAM, IN A SANDBOX (cutbox-rows.mjs): the forced cells as the released guide's own fill.sh prints them over the translation 9c2192bba2b0d9f3… (all of the seat's roots in one cut). By AI agents, Wed Nov 11 2026. No macro, syntax, notation, axiom, sorry.
-/
import Derived.Test.YtcmifkepleedmaaChecked
import GoSem.Claim
import GoSem.ClaimJoined
import GoSem.ClaimMapViews
import Derived.JoinedTies
import Derived.KernelRfl
namespace Go.Proofs.Ytcmifkepleedmaa
/- THE CELL 'sum', in the pinned program and in every row, IS THE sha256 OF THE DUMP (.gsa) THAT YtcmifkepleedmaaProg.lean LOADS. Nothing in Lean hashes anything: it is a label: what it is worth is what the hold of that sum in a sandbox is worth. -/
noncomputable def Try.pinned : Pinned := { name := "ytcmifkepleedmaa", sum := "9c2192bba2b0d9f32ea26e371df0165a76540e301c2854a4e5256106cb98db33", checked := Try.checked }
namespace Rows
def none {H : Type} : Left H := { results := [], args := [] }

/-- 'laws.FnCronBits': WHATEVER THE INPUT: true; the input reads as it did. -/
def fnCronBitsSpec : ChangeSpec := { name := "fnCronBits", fn := fun _ => fun
  | [d1, d2, d3] => { results := [.lit (.bool true)], args := [d1, d2, d3] }
  | _ => none }
def fnCronBitsRow : OpenClaim := { program := "ytcmifkepleedmaa", sum := "9c2192bba2b0d9f32ea26e371df0165a76540e301c2854a4e5256106cb98db33", func := "pub-timebook/laws.FnCronBits", spec := "fnCronBits", apart := false }
def FnCronBitsSaid : Prop := fnCronBitsRow.holds Try.pinned (OpenSpec.ofChange fnCronBitsSpec)

/-- ITS FALSE NEIGHBOUR: 'it returns false'. Refute it at one input. -/
def fnCronBitsWrong : ChangeSpec := { name := "fnCronBits", fn := fun _ => fun
  | [d1, d2, d3] => { results := [.lit (.bool false)], args := [d1, d2, d3] }
  | _ => none }
def FnCronBitsWrongFalsely : Prop := fnCronBitsRow.holds Try.pinned (OpenSpec.ofChange fnCronBitsWrong)

/-- 'laws.FnDigestKnown': WHATEVER THE INPUT: true; the input reads as it did. -/
def fnDigestKnownSpec : ChangeSpec := { name := "fnDigestKnown", fn := fun _ => fun
  | [d] => { results := [.lit (.bool true)], args := [d] }
  | _ => none }
def fnDigestKnownRow : OpenClaim := { program := "ytcmifkepleedmaa", sum := "9c2192bba2b0d9f32ea26e371df0165a76540e301c2854a4e5256106cb98db33", func := "pub-timebook/laws.FnDigestKnown", spec := "fnDigestKnown", apart := false }
def FnDigestKnownSaid : Prop := fnDigestKnownRow.holds Try.pinned (OpenSpec.ofChange fnDigestKnownSpec)

/-- ITS FALSE NEIGHBOUR: 'it returns false'. Refute it at one input. -/
def fnDigestKnownWrong : ChangeSpec := { name := "fnDigestKnown", fn := fun _ => fun
  | [d] => { results := [.lit (.bool false)], args := [d] }
  | _ => none }
def FnDigestKnownWrongFalsely : Prop := fnDigestKnownRow.holds Try.pinned (OpenSpec.ofChange fnDigestKnownWrong)

/-- 'laws.FnSetMatch': WHATEVER THE INPUT: true; the input reads as it did. -/
def fnSetMatchSpec : ChangeSpec := { name := "fnSetMatch", fn := fun _ => fun
  | [d1, d2, d3, d4] => { results := [.lit (.bool true)], args := [d1, d2, d3, d4] }
  | _ => none }
def fnSetMatchRow : OpenClaim := { program := "ytcmifkepleedmaa", sum := "9c2192bba2b0d9f32ea26e371df0165a76540e301c2854a4e5256106cb98db33", func := "pub-timebook/laws.FnSetMatch", spec := "fnSetMatch", apart := false }
def FnSetMatchSaid : Prop := fnSetMatchRow.holds Try.pinned (OpenSpec.ofChange fnSetMatchSpec)

/-- ITS FALSE NEIGHBOUR: 'it returns false'. Refute it at one input. -/
def fnSetMatchWrong : ChangeSpec := { name := "fnSetMatch", fn := fun _ => fun
  | [d1, d2, d3, d4] => { results := [.lit (.bool false)], args := [d1, d2, d3, d4] }
  | _ => none }
def FnSetMatchWrongFalsely : Prop := fnSetMatchRow.holds Try.pinned (OpenSpec.ofChange fnSetMatchWrong)

/-- 'laws.FnChainTrace': WHATEVER THE INPUT: true; the input reads as it did. -/
def fnChainTraceSpec : ChangeSpec := { name := "fnChainTrace", fn := fun _ => fun
  | [d] => { results := [.lit (.bool true)], args := [d] }
  | _ => none }
def fnChainTraceRow : OpenClaim := { program := "ytcmifkepleedmaa", sum := "9c2192bba2b0d9f32ea26e371df0165a76540e301c2854a4e5256106cb98db33", func := "pub-timebook/laws.FnChainTrace", spec := "fnChainTrace", unfollowed := true, recurses := true, apart := false }
def FnChainTraceSaid : Prop := fnChainTraceRow.holds Try.pinned (OpenSpec.ofChange fnChainTraceSpec)

/-- ITS FALSE NEIGHBOUR: 'it returns false'. Refute it at one input. -/
def fnChainTraceWrong : ChangeSpec := { name := "fnChainTrace", fn := fun _ => fun
  | [d] => { results := [.lit (.bool false)], args := [d] }
  | _ => none }
def FnChainTraceWrongFalsely : Prop := fnChainTraceRow.holds Try.pinned (OpenSpec.ofChange fnChainTraceWrong)

/-- 'laws.FnRefFamiliarize': WHATEVER THE INPUT: true; the input reads as it did. -/
def fnRefFamiliarizeSpec : ChangeSpec := { name := "fnRefFamiliarize", fn := fun _ => fun
  | [d1, d2] => { results := [.lit (.bool true)], args := [d1, d2] }
  | _ => none }
def fnRefFamiliarizeRow : OpenClaim := { program := "ytcmifkepleedmaa", sum := "9c2192bba2b0d9f32ea26e371df0165a76540e301c2854a4e5256106cb98db33", func := "pub-timebook/laws.FnRefFamiliarize", spec := "fnRefFamiliarize", unfollowed := true, recurses := true, apart := false }
def FnRefFamiliarizeSaid : Prop := fnRefFamiliarizeRow.holds Try.pinned (OpenSpec.ofChange fnRefFamiliarizeSpec)

/-- ITS FALSE NEIGHBOUR: 'it returns false'. Refute it at one input. -/
def fnRefFamiliarizeWrong : ChangeSpec := { name := "fnRefFamiliarize", fn := fun _ => fun
  | [d1, d2] => { results := [.lit (.bool false)], args := [d1, d2] }
  | _ => none }
def FnRefFamiliarizeWrongFalsely : Prop := fnRefFamiliarizeRow.holds Try.pinned (OpenSpec.ofChange fnRefFamiliarizeWrong)

/-- 'laws.FnRefText': WHATEVER THE INPUT: true; the input reads as it did. -/
def fnRefTextSpec : ChangeSpec := { name := "fnRefText", fn := fun _ => fun
  | [d] => { results := [.lit (.bool true)], args := [d] }
  | _ => none }
def fnRefTextRow : OpenClaim := { program := "ytcmifkepleedmaa", sum := "9c2192bba2b0d9f32ea26e371df0165a76540e301c2854a4e5256106cb98db33", func := "pub-timebook/laws.FnRefText", spec := "fnRefText", unfollowed := true, recurses := true, apart := false }
def FnRefTextSaid : Prop := fnRefTextRow.holds Try.pinned (OpenSpec.ofChange fnRefTextSpec)

/-- ITS FALSE NEIGHBOUR: 'it returns false'. Refute it at one input. -/
def fnRefTextWrong : ChangeSpec := { name := "fnRefText", fn := fun _ => fun
  | [d] => { results := [.lit (.bool false)], args := [d] }
  | _ => none }
def FnRefTextWrongFalsely : Prop := fnRefTextRow.holds Try.pinned (OpenSpec.ofChange fnRefTextWrong)

/- THE SECOND FORM. 'bulk': how many values and letters a reading holds, each counted each time it is reached (what is shared counts as often as it is met; a slice's spare places count too). A statement '..UptoSaid' is the law's where the arguments, and the package variables that the reading takes, are together of bulk at most 1048576: NARROWER than '..Said'. Prove '..Said' where nothing that the law and all that it calls make is longer than what came in: it says more and counts as full. Else prove '..UptoSaid'. A law counts once. -/
mutual
def uptoBulk {H : Type} : DataW H → Nat
  | .lit (.string bytes) => bytes.length + 1
  | .lit _ => 1
  | .nil => 1
  | .ptr d => uptoBulk d + 1
  | .slice elems spare => uptoBulkAll elems + uptoBulkAll spare + 1
  | .agg parts => uptoBulkAll parts + 1
  | .iface _ d => uptoBulk d + 1
  | .map entries => uptoBulkEntries entries + 1
  | .held _ => 1
def uptoBulkAll {H : Type} : List (DataW H) → Nat
  | [] => 0
  | d :: r => uptoBulk d + uptoBulkAll r
def uptoBulkEntries {H : Type} : List (Lit × DataW H) → Nat
  | [] => 0
  | x :: r => uptoBulkEntry x + uptoBulkEntries r
def uptoBulkEntry {H : Type} : Lit × DataW H → Nat
  | (.string bytes, d) => bytes.length + uptoBulk d + 1
  | (_, d) => uptoBulk d + 1
 end
def uptoSmall : (H : Type) → List (DataW H) → Bool := fun _ ds => decide (uptoBulkAll ds ≤ 1048576)
def OpenSpec.upto (s : _root_.Go.ChangeSpec) : _root_.Go.OpenSpec := { _root_.Go.OpenSpec.ofChange s with cond := some uptoSmall }

/-- 'laws.FnCronBits', WHERE WHAT IT READS IS OF BULK AT MOST 1048576: true; the input reads as it did. -/
def fnCronBitsUptoRow : OpenClaim := { program := "ytcmifkepleedmaa", sum := "9c2192bba2b0d9f32ea26e371df0165a76540e301c2854a4e5256106cb98db33", func := "pub-timebook/laws.FnCronBits", spec := "fnCronBits", apart := false, narrowed := true }
def FnCronBitsUptoSaid : Prop := fnCronBitsUptoRow.holds Try.pinned (OpenSpec.upto fnCronBitsSpec)

/-- 'laws.FnDigestKnown', WHERE WHAT IT READS IS OF BULK AT MOST 1048576: true; the input reads as it did. -/
def fnDigestKnownUptoRow : OpenClaim := { program := "ytcmifkepleedmaa", sum := "9c2192bba2b0d9f32ea26e371df0165a76540e301c2854a4e5256106cb98db33", func := "pub-timebook/laws.FnDigestKnown", spec := "fnDigestKnown", apart := false, narrowed := true }
def FnDigestKnownUptoSaid : Prop := fnDigestKnownUptoRow.holds Try.pinned (OpenSpec.upto fnDigestKnownSpec)

/-- 'laws.FnSetMatch', WHERE WHAT IT READS IS OF BULK AT MOST 1048576: true; the input reads as it did. -/
def fnSetMatchUptoRow : OpenClaim := { program := "ytcmifkepleedmaa", sum := "9c2192bba2b0d9f32ea26e371df0165a76540e301c2854a4e5256106cb98db33", func := "pub-timebook/laws.FnSetMatch", spec := "fnSetMatch", apart := false, narrowed := true }
def FnSetMatchUptoSaid : Prop := fnSetMatchUptoRow.holds Try.pinned (OpenSpec.upto fnSetMatchSpec)

/-- 'laws.FnChainTrace', WHERE WHAT IT READS IS OF BULK AT MOST 1048576: true; the input reads as it did. -/
def fnChainTraceUptoRow : OpenClaim := { program := "ytcmifkepleedmaa", sum := "9c2192bba2b0d9f32ea26e371df0165a76540e301c2854a4e5256106cb98db33", func := "pub-timebook/laws.FnChainTrace", spec := "fnChainTrace", unfollowed := true, recurses := true, apart := false, narrowed := true }
def FnChainTraceUptoSaid : Prop := fnChainTraceUptoRow.holds Try.pinned (OpenSpec.upto fnChainTraceSpec)

/-- 'laws.FnRefFamiliarize', WHERE WHAT IT READS IS OF BULK AT MOST 1048576: true; the input reads as it did. -/
def fnRefFamiliarizeUptoRow : OpenClaim := { program := "ytcmifkepleedmaa", sum := "9c2192bba2b0d9f32ea26e371df0165a76540e301c2854a4e5256106cb98db33", func := "pub-timebook/laws.FnRefFamiliarize", spec := "fnRefFamiliarize", unfollowed := true, recurses := true, apart := false, narrowed := true }
def FnRefFamiliarizeUptoSaid : Prop := fnRefFamiliarizeUptoRow.holds Try.pinned (OpenSpec.upto fnRefFamiliarizeSpec)

/-- 'laws.FnRefText', WHERE WHAT IT READS IS OF BULK AT MOST 1048576: true; the input reads as it did. -/
def fnRefTextUptoRow : OpenClaim := { program := "ytcmifkepleedmaa", sum := "9c2192bba2b0d9f32ea26e371df0165a76540e301c2854a4e5256106cb98db33", func := "pub-timebook/laws.FnRefText", spec := "fnRefText", unfollowed := true, recurses := true, apart := false, narrowed := true }
def FnRefTextUptoSaid : Prop := fnRefTextUptoRow.holds Try.pinned (OpenSpec.upto fnRefTextSpec)

end Rows
end Go.Proofs.Ytcmifkepleedmaa
