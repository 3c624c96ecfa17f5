/-
  No cell of these rows narrows 'for every input' (looked for: loops, veiled, ifaces, maps, wideKeys, modest, calm, conditions, laid).
  DERIVED. THE GIVEN ROWS OF THIS SEAT. 5 by the template 'for every input the law returns true; each argument reads behind the call as it read before'; 0 by the template 'total and deterministic' (their statements: YtleldhnilecklaaTotals.lean).
  GIVEN WITH THE SEED: the statements are not yours to turn. If you find one false, say at which input.
  Laid BY PROGRAM, IN A SANDBOX (cutbox-rows.mjs): the forced cells as the released guide's own fill.sh prints them over the translation 331badcea7dc740d… (all of the seat's roots in one cut). By AI agents, Wed Nov 11 2026. No macro, syntax, notation, axiom, sorry.
-/
import Derived.Test.YtleldhnilecklaaChecked
import GoSem.Claim
import GoSem.ClaimJoined
import GoSem.ClaimMapViews
import Derived.JoinedTies
import Derived.KernelRfl
namespace Go.Proofs.Ytleldhnilecklaa
/- THE CELL 'sum', in the pinned program and in every row, IS THE sha256 OF THE DUMP (.gsa) THAT YtleldhnilecklaaProg.lean LOADS. Nothing in Lean hashes anything: it is a label: what it is worth is what the hold of that sum in a sandbox is worth. -/
noncomputable def Try.pinned : Pinned := { name := "ytleldhnilecklaa", sum := "331badcea7dc740d7f0f7c9d4f97708c87adf2544bd51324d42fee762825d1a7", checked := Try.checked }
namespace Rows
def none {H : Type} : Left H := { results := [], args := [] }

/-- 'n010_10.FnPosAfterExact': WHATEVER THE INPUT: true; the input reads as it did. -/
def fnPosAfterExactSpec : ChangeSpec := { name := "fnPosAfterExact", fn := fun _ => fun
  | [d1, d2, d3, d4, d5, d6] => { results := [.lit (.bool true)], args := [d1, d2, d3, d4, d5, d6] }
  | _ => none }
def fnPosAfterExactRow : OpenClaim := { program := "ytleldhnilecklaa", sum := "331badcea7dc740d7f0f7c9d4f97708c87adf2544bd51324d42fee762825d1a7", func := "mvdan.cc/sh/v3/n010_10.FnPosAfterExact", spec := "fnPosAfterExact", apart := false }
def FnPosAfterExactSaid : Prop := fnPosAfterExactRow.holds Try.pinned (OpenSpec.ofChange fnPosAfterExactSpec)

/-- ITS FALSE NEIGHBOUR: 'it returns false'. Refute it at one input. -/
def fnPosAfterExactWrong : ChangeSpec := { name := "fnPosAfterExact", fn := fun _ => fun
  | [d1, d2, d3, d4, d5, d6] => { results := [.lit (.bool false)], args := [d1, d2, d3, d4, d5, d6] }
  | _ => none }
def FnPosAfterExactWrongFalsely : Prop := fnPosAfterExactRow.holds Try.pinned (OpenSpec.ofChange fnPosAfterExactWrong)

/-- 'n010_15.FnCmdSubstAgreesWithDblQuoted': WHATEVER THE INPUT: true; the input reads as it did. -/
def fnCmdSubstAgreesWithDblQuotedSpec : ChangeSpec := { name := "fnCmdSubstAgreesWithDblQuoted", fn := fun _ => fun
  | [d1, d2, d3, d4, d5, d6, d7, d8] => { results := [.lit (.bool true)], args := [d1, d2, d3, d4, d5, d6, d7, d8] }
  | _ => none }
def fnCmdSubstAgreesWithDblQuotedRow : OpenClaim := { program := "ytleldhnilecklaa", sum := "331badcea7dc740d7f0f7c9d4f97708c87adf2544bd51324d42fee762825d1a7", func := "mvdan.cc/sh/v3/n010_15.FnCmdSubstAgreesWithDblQuoted", spec := "fnCmdSubstAgreesWithDblQuoted", apart := false }
def FnCmdSubstAgreesWithDblQuotedSaid : Prop := fnCmdSubstAgreesWithDblQuotedRow.holds Try.pinned (OpenSpec.ofChange fnCmdSubstAgreesWithDblQuotedSpec)

/-- ITS FALSE NEIGHBOUR: 'it returns false'. Refute it at one input. -/
def fnCmdSubstAgreesWithDblQuotedWrong : ChangeSpec := { name := "fnCmdSubstAgreesWithDblQuoted", fn := fun _ => fun
  | [d1, d2, d3, d4, d5, d6, d7, d8] => { results := [.lit (.bool false)], args := [d1, d2, d3, d4, d5, d6, d7, d8] }
  | _ => none }
def FnCmdSubstAgreesWithDblQuotedWrongFalsely : Prop := fnCmdSubstAgreesWithDblQuotedRow.holds Try.pinned (OpenSpec.ofChange fnCmdSubstAgreesWithDblQuotedWrong)

/-- 'n010_16.FnProcSubstEndAgreesWithExtGlobEnd': WHATEVER THE INPUT: true; the input reads as it did. -/
def fnProcSubstEndAgreesWithExtGlobEndSpec : ChangeSpec := { name := "fnProcSubstEndAgreesWithExtGlobEnd", fn := fun _ => fun
  | [d1, d2, d3, d4] => { results := [.lit (.bool true)], args := [d1, d2, d3, d4] }
  | _ => none }
def fnProcSubstEndAgreesWithExtGlobEndRow : OpenClaim := { program := "ytleldhnilecklaa", sum := "331badcea7dc740d7f0f7c9d4f97708c87adf2544bd51324d42fee762825d1a7", func := "mvdan.cc/sh/v3/n010_16.FnProcSubstEndAgreesWithExtGlobEnd", spec := "fnProcSubstEndAgreesWithExtGlobEnd", apart := false }
def FnProcSubstEndAgreesWithExtGlobEndSaid : Prop := fnProcSubstEndAgreesWithExtGlobEndRow.holds Try.pinned (OpenSpec.ofChange fnProcSubstEndAgreesWithExtGlobEndSpec)

/-- ITS FALSE NEIGHBOUR: 'it returns false'. Refute it at one input. -/
def fnProcSubstEndAgreesWithExtGlobEndWrong : ChangeSpec := { name := "fnProcSubstEndAgreesWithExtGlobEnd", fn := fun _ => fun
  | [d1, d2, d3, d4] => { results := [.lit (.bool false)], args := [d1, d2, d3, d4] }
  | _ => none }
def FnProcSubstEndAgreesWithExtGlobEndWrongFalsely : Prop := fnProcSubstEndAgreesWithExtGlobEndRow.holds Try.pinned (OpenSpec.ofChange fnProcSubstEndAgreesWithExtGlobEndWrong)

/-- 'n010_16.FnTimeClauseBareSpan': WHATEVER THE INPUT: true; the input reads as it did. -/
def fnTimeClauseBareSpanSpec : ChangeSpec := { name := "fnTimeClauseBareSpan", fn := fun _ => fun
  | [d1, d2, d3] => { results := [.lit (.bool true)], args := [d1, d2, d3] }
  | _ => none }
def fnTimeClauseBareSpanRow : OpenClaim := { program := "ytleldhnilecklaa", sum := "331badcea7dc740d7f0f7c9d4f97708c87adf2544bd51324d42fee762825d1a7", func := "mvdan.cc/sh/v3/n010_16.FnTimeClauseBareSpan", spec := "fnTimeClauseBareSpan", unfollowed := true, recurses := true, apart := false }
def FnTimeClauseBareSpanSaid : Prop := fnTimeClauseBareSpanRow.holds Try.pinned (OpenSpec.ofChange fnTimeClauseBareSpanSpec)

/-- ITS FALSE NEIGHBOUR: 'it returns false'. Refute it at one input. -/
def fnTimeClauseBareSpanWrong : ChangeSpec := { name := "fnTimeClauseBareSpan", fn := fun _ => fun
  | [d1, d2, d3] => { results := [.lit (.bool false)], args := [d1, d2, d3] }
  | _ => none }
def FnTimeClauseBareSpanWrongFalsely : Prop := fnTimeClauseBareSpanRow.holds Try.pinned (OpenSpec.ofChange fnTimeClauseBareSpanWrong)

/-- 'n010_2.FnArithmOpsRefusesWordAndSpaceRunes': WHATEVER THE INPUT: true; the input reads as it did. -/
def fnArithmOpsRefusesWordAndSpaceRunesSpec : ChangeSpec := { name := "fnArithmOpsRefusesWordAndSpaceRunes", fn := fun _ => fun
  | [d] => { results := [.lit (.bool true)], args := [d] }
  | _ => none }
def fnArithmOpsRefusesWordAndSpaceRunesRow : OpenClaim := { program := "ytleldhnilecklaa", sum := "331badcea7dc740d7f0f7c9d4f97708c87adf2544bd51324d42fee762825d1a7", func := "mvdan.cc/sh/v3/n010_2.FnArithmOpsRefusesWordAndSpaceRunes", spec := "fnArithmOpsRefusesWordAndSpaceRunes", apart := false }
def FnArithmOpsRefusesWordAndSpaceRunesSaid : Prop := fnArithmOpsRefusesWordAndSpaceRunesRow.holds Try.pinned (OpenSpec.ofChange fnArithmOpsRefusesWordAndSpaceRunesSpec)

/-- ITS FALSE NEIGHBOUR: 'it returns false'. Refute it at one input. -/
def fnArithmOpsRefusesWordAndSpaceRunesWrong : ChangeSpec := { name := "fnArithmOpsRefusesWordAndSpaceRunes", fn := fun _ => fun
  | [d] => { results := [.lit (.bool false)], args := [d] }
  | _ => none }
def FnArithmOpsRefusesWordAndSpaceRunesWrongFalsely : Prop := fnArithmOpsRefusesWordAndSpaceRunesRow.holds Try.pinned (OpenSpec.ofChange fnArithmOpsRefusesWordAndSpaceRunesWrong)

/- THE SECOND FORM. 'bulk': how many values and letters a reading holds, each counted each time it is reached (what is shared counts as often as it is met; a slice's spare places count too). A statement '..UptoSaid' is the law's where the arguments, and the package variables that the reading takes, are together of bulk at most 1048576: NARROWER than '..Said'. Prove '..Said' where nothing that the law and all that it calls make is longer than what came in: it says more and counts as full. Else prove '..UptoSaid'. A law counts once. -/
mutual
def uptoBulk {H : Type} : DataW H → Nat
  | .lit (.string bytes) => bytes.length + 1
  | .lit _ => 1
  | .nil => 1
  | .ptr d => uptoBulk d + 1
  | .slice elems spare => uptoBulkAll elems + uptoBulkAll spare + 1
  | .agg parts => uptoBulkAll parts + 1
  | .iface _ d => uptoBulk d + 1
  | .map entries => uptoBulkEntries entries + 1
  | .held _ => 1
def uptoBulkAll {H : Type} : List (DataW H) → Nat
  | [] => 0
  | d :: r => uptoBulk d + uptoBulkAll r
def uptoBulkEntries {H : Type} : List (Lit × DataW H) → Nat
  | [] => 0
  | x :: r => uptoBulkEntry x + uptoBulkEntries r
def uptoBulkEntry {H : Type} : Lit × DataW H → Nat
  | (.string bytes, d) => bytes.length + uptoBulk d + 1
  | (_, d) => uptoBulk d + 1
 end
def uptoSmall : (H : Type) → List (DataW H) → Bool := fun _ ds => decide (uptoBulkAll ds ≤ 1048576)
def OpenSpec.upto (s : _root_.Go.ChangeSpec) : _root_.Go.OpenSpec := { _root_.Go.OpenSpec.ofChange s with cond := some uptoSmall }

/-- 'n010_10.FnPosAfterExact', WHERE WHAT IT READS IS OF BULK AT MOST 1048576: true; the input reads as it did. -/
def fnPosAfterExactUptoRow : OpenClaim := { program := "ytleldhnilecklaa", sum := "331badcea7dc740d7f0f7c9d4f97708c87adf2544bd51324d42fee762825d1a7", func := "mvdan.cc/sh/v3/n010_10.FnPosAfterExact", spec := "fnPosAfterExact", apart := false, narrowed := true }
def FnPosAfterExactUptoSaid : Prop := fnPosAfterExactUptoRow.holds Try.pinned (OpenSpec.upto fnPosAfterExactSpec)

/-- 'n010_15.FnCmdSubstAgreesWithDblQuoted', WHERE WHAT IT READS IS OF BULK AT MOST 1048576: true; the input reads as it did. -/
def fnCmdSubstAgreesWithDblQuotedUptoRow : OpenClaim := { program := "ytleldhnilecklaa", sum := "331badcea7dc740d7f0f7c9d4f97708c87adf2544bd51324d42fee762825d1a7", func := "mvdan.cc/sh/v3/n010_15.FnCmdSubstAgreesWithDblQuoted", spec := "fnCmdSubstAgreesWithDblQuoted", apart := false, narrowed := true }
def FnCmdSubstAgreesWithDblQuotedUptoSaid : Prop := fnCmdSubstAgreesWithDblQuotedUptoRow.holds Try.pinned (OpenSpec.upto fnCmdSubstAgreesWithDblQuotedSpec)

/-- 'n010_16.FnProcSubstEndAgreesWithExtGlobEnd', WHERE WHAT IT READS IS OF BULK AT MOST 1048576: true; the input reads as it did. -/
def fnProcSubstEndAgreesWithExtGlobEndUptoRow : OpenClaim := { program := "ytleldhnilecklaa", sum := "331badcea7dc740d7f0f7c9d4f97708c87adf2544bd51324d42fee762825d1a7", func := "mvdan.cc/sh/v3/n010_16.FnProcSubstEndAgreesWithExtGlobEnd", spec := "fnProcSubstEndAgreesWithExtGlobEnd", apart := false, narrowed := true }
def FnProcSubstEndAgreesWithExtGlobEndUptoSaid : Prop := fnProcSubstEndAgreesWithExtGlobEndUptoRow.holds Try.pinned (OpenSpec.upto fnProcSubstEndAgreesWithExtGlobEndSpec)

/-- 'n010_16.FnTimeClauseBareSpan', WHERE WHAT IT READS IS OF BULK AT MOST 1048576: true; the input reads as it did. -/
def fnTimeClauseBareSpanUptoRow : OpenClaim := { program := "ytleldhnilecklaa", sum := "331badcea7dc740d7f0f7c9d4f97708c87adf2544bd51324d42fee762825d1a7", func := "mvdan.cc/sh/v3/n010_16.FnTimeClauseBareSpan", spec := "fnTimeClauseBareSpan", unfollowed := true, recurses := true, apart := false, narrowed := true }
def FnTimeClauseBareSpanUptoSaid : Prop := fnTimeClauseBareSpanUptoRow.holds Try.pinned (OpenSpec.upto fnTimeClauseBareSpanSpec)

/-- 'n010_2.FnArithmOpsRefusesWordAndSpaceRunes', WHERE WHAT IT READS IS OF BULK AT MOST 1048576: true; the input reads as it did. -/
def fnArithmOpsRefusesWordAndSpaceRunesUptoRow : OpenClaim := { program := "ytleldhnilecklaa", sum := "331badcea7dc740d7f0f7c9d4f97708c87adf2544bd51324d42fee762825d1a7", func := "mvdan.cc/sh/v3/n010_2.FnArithmOpsRefusesWordAndSpaceRunes", spec := "fnArithmOpsRefusesWordAndSpaceRunes", apart := false, narrowed := true }
def FnArithmOpsRefusesWordAndSpaceRunesUptoSaid : Prop := fnArithmOpsRefusesWordAndSpaceRunesUptoRow.holds Try.pinned (OpenSpec.upto fnArithmOpsRefusesWordAndSpaceRunesSpec)

end Rows
end Go.Proofs.Ytleldhnilecklaa
