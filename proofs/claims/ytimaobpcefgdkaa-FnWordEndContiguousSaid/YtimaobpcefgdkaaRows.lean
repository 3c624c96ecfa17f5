/-
  No cell of these rows narrows 'for every input' (looked for: loops, veiled, ifaces, maps, wideKeys, modest, calm, conditions, laid).
  DERIVED. THE GIVEN ROWS OF THIS SEAT. 10 by the template 'for every input the law returns true; each argument reads behind the call as it read before'; 0 by the template 'total and deterministic' (their statements: YtimaobpcefgdkaaTotals.lean).
  GIVEN WITH THE SEED: the statements are not yours to turn. If you find one false, say at which input.
  Laid BY PROGRAM, IN A SANDBOX (cutbox-rows.mjs): the forced cells as the released guide's own fill.sh prints them over the translation 32240f926009a762… (all of the seat's roots in one cut). By AI agents, Wed Nov 11 2026. No macro, syntax, notation, axiom, sorry.
-/
import Derived.Test.YtimaobpcefgdkaaChecked
import GoSem.Claim
import GoSem.ClaimJoined
import GoSem.ClaimMapViews
import Derived.JoinedTies
import Derived.KernelRfl
namespace Go.Proofs.Ytimaobpcefgdkaa
/- THE CELL 'sum', in the pinned program and in every row, IS THE sha256 OF THE DUMP (.gsa) THAT YtimaobpcefgdkaaProg.lean LOADS. Nothing in Lean hashes anything: it is a label: what it is worth is what the hold of that sum in a sandbox is worth. -/
noncomputable def Try.pinned : Pinned := { name := "ytimaobpcefgdkaa", sum := "32240f926009a762601a970c983650128171cf2ff3cf154718ebf8f67f7b6814", checked := Try.checked }
namespace Rows
def none {H : Type} : Left H := { results := [], args := [] }

/-- 'n010_147.FnCallExprStartFromAssignsEndFromArgs': WHATEVER THE INPUT: true; the input reads as it did. -/
def fnCallExprStartFromAssignsEndFromArgsSpec : ChangeSpec := { name := "fnCallExprStartFromAssignsEndFromArgs", fn := fun _ => fun
  | [d1, d2] => { results := [.lit (.bool true)], args := [d1, d2] }
  | _ => none }
def fnCallExprStartFromAssignsEndFromArgsRow : OpenClaim := { program := "ytimaobpcefgdkaa", sum := "32240f926009a762601a970c983650128171cf2ff3cf154718ebf8f67f7b6814", func := "mvdan.cc/sh/v3/n010_147.FnCallExprStartFromAssignsEndFromArgs", spec := "fnCallExprStartFromAssignsEndFromArgs", unfollowed := true, recurses := true, apart := false }
def FnCallExprStartFromAssignsEndFromArgsSaid : Prop := fnCallExprStartFromAssignsEndFromArgsRow.holds Try.pinned (OpenSpec.ofChange fnCallExprStartFromAssignsEndFromArgsSpec)

/-- ITS FALSE NEIGHBOUR: 'it returns false'. Refute it at one input. -/
def fnCallExprStartFromAssignsEndFromArgsWrong : ChangeSpec := { name := "fnCallExprStartFromAssignsEndFromArgs", fn := fun _ => fun
  | [d1, d2] => { results := [.lit (.bool false)], args := [d1, d2] }
  | _ => none }
def FnCallExprStartFromAssignsEndFromArgsWrongFalsely : Prop := fnCallExprStartFromAssignsEndFromArgsRow.holds Try.pinned (OpenSpec.ofChange fnCallExprStartFromAssignsEndFromArgsWrong)

/-- 'n010_128.FnStmtsPosIgnoresTail': WHATEVER THE INPUT: true; the input reads as it did. -/
def fnStmtsPosIgnoresTailSpec : ChangeSpec := { name := "fnStmtsPosIgnoresTail", fn := fun _ => fun
  | [d1, d2] => { results := [.lit (.bool true)], args := [d1, d2] }
  | _ => none }
def fnStmtsPosIgnoresTailRow : OpenClaim := { program := "ytimaobpcefgdkaa", sum := "32240f926009a762601a970c983650128171cf2ff3cf154718ebf8f67f7b6814", func := "mvdan.cc/sh/v3/n010_128.FnStmtsPosIgnoresTail", spec := "fnStmtsPosIgnoresTail", apart := false }
def FnStmtsPosIgnoresTailSaid : Prop := fnStmtsPosIgnoresTailRow.holds Try.pinned (OpenSpec.ofChange fnStmtsPosIgnoresTailSpec)

/-- ITS FALSE NEIGHBOUR: 'it returns false'. Refute it at one input. -/
def fnStmtsPosIgnoresTailWrong : ChangeSpec := { name := "fnStmtsPosIgnoresTail", fn := fun _ => fun
  | [d1, d2] => { results := [.lit (.bool false)], args := [d1, d2] }
  | _ => none }
def FnStmtsPosIgnoresTailWrongFalsely : Prop := fnStmtsPosIgnoresTailRow.holds Try.pinned (OpenSpec.ofChange fnStmtsPosIgnoresTailWrong)

/-- 'n010_128.FnStmtsEndLastDominates': WHATEVER THE INPUT: true; the input reads as it did. -/
def fnStmtsEndLastDominatesSpec : ChangeSpec := { name := "fnStmtsEndLastDominates", fn := fun _ => fun
  | [d1, d2] => { results := [.lit (.bool true)], args := [d1, d2] }
  | _ => none }
def fnStmtsEndLastDominatesRow : OpenClaim := { program := "ytimaobpcefgdkaa", sum := "32240f926009a762601a970c983650128171cf2ff3cf154718ebf8f67f7b6814", func := "mvdan.cc/sh/v3/n010_128.FnStmtsEndLastDominates", spec := "fnStmtsEndLastDominates", unfollowed := true, recurses := true, apart := false }
def FnStmtsEndLastDominatesSaid : Prop := fnStmtsEndLastDominatesRow.holds Try.pinned (OpenSpec.ofChange fnStmtsEndLastDominatesSpec)

/-- ITS FALSE NEIGHBOUR: 'it returns false'. Refute it at one input. -/
def fnStmtsEndLastDominatesWrong : ChangeSpec := { name := "fnStmtsEndLastDominates", fn := fun _ => fun
  | [d1, d2] => { results := [.lit (.bool false)], args := [d1, d2] }
  | _ => none }
def FnStmtsEndLastDominatesWrongFalsely : Prop := fnStmtsEndLastDominatesRow.holds Try.pinned (OpenSpec.ofChange fnStmtsEndLastDominatesWrong)

/-- 'n010_147.FnStmtOfRedirectsEndsAtLastRedirect': WHATEVER THE INPUT: true; the input reads as it did. -/
def fnStmtOfRedirectsEndsAtLastRedirectSpec : ChangeSpec := { name := "fnStmtOfRedirectsEndsAtLastRedirect", fn := fun _ => fun
  | [d1, d2, d3] => { results := [.lit (.bool true)], args := [d1, d2, d3] }
  | _ => none }
def fnStmtOfRedirectsEndsAtLastRedirectRow : OpenClaim := { program := "ytimaobpcefgdkaa", sum := "32240f926009a762601a970c983650128171cf2ff3cf154718ebf8f67f7b6814", func := "mvdan.cc/sh/v3/n010_147.FnStmtOfRedirectsEndsAtLastRedirect", spec := "fnStmtOfRedirectsEndsAtLastRedirect", unfollowed := true, recurses := true, apart := false }
def FnStmtOfRedirectsEndsAtLastRedirectSaid : Prop := fnStmtOfRedirectsEndsAtLastRedirectRow.holds Try.pinned (OpenSpec.ofChange fnStmtOfRedirectsEndsAtLastRedirectSpec)

/-- ITS FALSE NEIGHBOUR: 'it returns false'. Refute it at one input. -/
def fnStmtOfRedirectsEndsAtLastRedirectWrong : ChangeSpec := { name := "fnStmtOfRedirectsEndsAtLastRedirect", fn := fun _ => fun
  | [d1, d2, d3] => { results := [.lit (.bool false)], args := [d1, d2, d3] }
  | _ => none }
def FnStmtOfRedirectsEndsAtLastRedirectWrongFalsely : Prop := fnStmtOfRedirectsEndsAtLastRedirectRow.holds Try.pinned (OpenSpec.ofChange fnStmtOfRedirectsEndsAtLastRedirectWrong)

/-- 'n010_12.FnWordLitJoin': WHATEVER THE INPUT: true; the input reads as it did. -/
def fnWordLitJoinSpec : ChangeSpec := { name := "fnWordLitJoin", fn := fun _ => fun
  | [d1, d2, d3, d4] => { results := [.lit (.bool true)], args := [d1, d2, d3, d4] }
  | _ => none }
def fnWordLitJoinRow : OpenClaim := { program := "ytimaobpcefgdkaa", sum := "32240f926009a762601a970c983650128171cf2ff3cf154718ebf8f67f7b6814", func := "mvdan.cc/sh/v3/n010_12.FnWordLitJoin", spec := "fnWordLitJoin", inPlace := ["internal/abi.NoEscape", "internal/bytealg.MakeNoZero"], apart := false }
def FnWordLitJoinSaid : Prop := fnWordLitJoinRow.holds Try.pinned (OpenSpec.ofChange fnWordLitJoinSpec)

/-- ITS FALSE NEIGHBOUR: 'it returns false'. Refute it at one input. -/
def fnWordLitJoinWrong : ChangeSpec := { name := "fnWordLitJoin", fn := fun _ => fun
  | [d1, d2, d3, d4] => { results := [.lit (.bool false)], args := [d1, d2, d3, d4] }
  | _ => none }
def FnWordLitJoinWrongFalsely : Prop := fnWordLitJoinRow.holds Try.pinned (OpenSpec.ofChange fnWordLitJoinWrong)

/-- 'n010_128.FnFileEndNoComments': WHATEVER THE INPUT: true; the input reads as it did. -/
def fnFileEndNoCommentsSpec : ChangeSpec := { name := "fnFileEndNoComments", fn := fun _ => fun
  | [d1, d2] => { results := [.lit (.bool true)], args := [d1, d2] }
  | _ => none }
def fnFileEndNoCommentsRow : OpenClaim := { program := "ytimaobpcefgdkaa", sum := "32240f926009a762601a970c983650128171cf2ff3cf154718ebf8f67f7b6814", func := "mvdan.cc/sh/v3/n010_128.FnFileEndNoComments", spec := "fnFileEndNoComments", unfollowed := true, recurses := true, apart := false }
def FnFileEndNoCommentsSaid : Prop := fnFileEndNoCommentsRow.holds Try.pinned (OpenSpec.ofChange fnFileEndNoCommentsSpec)

/-- ITS FALSE NEIGHBOUR: 'it returns false'. Refute it at one input. -/
def fnFileEndNoCommentsWrong : ChangeSpec := { name := "fnFileEndNoComments", fn := fun _ => fun
  | [d1, d2] => { results := [.lit (.bool false)], args := [d1, d2] }
  | _ => none }
def FnFileEndNoCommentsWrongFalsely : Prop := fnFileEndNoCommentsRow.holds Try.pinned (OpenSpec.ofChange fnFileEndNoCommentsWrong)

/-- 'n010_138.FnIncDecRoundTrip': WHATEVER THE INPUT: true; the input reads as it did. -/
def fnIncDecRoundTripSpec : ChangeSpec := { name := "fnIncDecRoundTrip", fn := fun _ => fun
  | [d1, d2, d3] => { results := [.lit (.bool true)], args := [d1, d2, d3] }
  | _ => none }
def fnIncDecRoundTripRow : OpenClaim := { program := "ytimaobpcefgdkaa", sum := "32240f926009a762601a970c983650128171cf2ff3cf154718ebf8f67f7b6814", func := "mvdan.cc/sh/v3/n010_138.FnIncDecRoundTrip", spec := "fnIncDecRoundTrip", apart := false }
def FnIncDecRoundTripSaid : Prop := fnIncDecRoundTripRow.holds Try.pinned (OpenSpec.ofChange fnIncDecRoundTripSpec)

/-- ITS FALSE NEIGHBOUR: 'it returns false'. Refute it at one input. -/
def fnIncDecRoundTripWrong : ChangeSpec := { name := "fnIncDecRoundTrip", fn := fun _ => fun
  | [d1, d2, d3] => { results := [.lit (.bool false)], args := [d1, d2, d3] }
  | _ => none }
def FnIncDecRoundTripWrongFalsely : Prop := fnIncDecRoundTripRow.holds Try.pinned (OpenSpec.ofChange fnIncDecRoundTripWrong)

/-- 'n010_17.FnBinaryTestPosIsFirstInSource': WHATEVER THE INPUT: true; the input reads as it did. -/
def fnBinaryTestPosIsFirstInSourceSpec : ChangeSpec := { name := "fnBinaryTestPosIsFirstInSource", fn := fun _ => fun
  | [d1, d2, d3] => { results := [.lit (.bool true)], args := [d1, d2, d3] }
  | _ => none }
def fnBinaryTestPosIsFirstInSourceRow : OpenClaim := { program := "ytimaobpcefgdkaa", sum := "32240f926009a762601a970c983650128171cf2ff3cf154718ebf8f67f7b6814", func := "mvdan.cc/sh/v3/n010_17.FnBinaryTestPosIsFirstInSource", spec := "fnBinaryTestPosIsFirstInSource", unfollowed := true, recurses := true, apart := false }
def FnBinaryTestPosIsFirstInSourceSaid : Prop := fnBinaryTestPosIsFirstInSourceRow.holds Try.pinned (OpenSpec.ofChange fnBinaryTestPosIsFirstInSourceSpec)

/-- ITS FALSE NEIGHBOUR: 'it returns false'. Refute it at one input. -/
def fnBinaryTestPosIsFirstInSourceWrong : ChangeSpec := { name := "fnBinaryTestPosIsFirstInSource", fn := fun _ => fun
  | [d1, d2, d3] => { results := [.lit (.bool false)], args := [d1, d2, d3] }
  | _ => none }
def FnBinaryTestPosIsFirstInSourceWrongFalsely : Prop := fnBinaryTestPosIsFirstInSourceRow.holds Try.pinned (OpenSpec.ofChange fnBinaryTestPosIsFirstInSourceWrong)

/-- 'n010_12.FnWordEndContiguous': WHATEVER THE INPUT: true; the input reads as it did. -/
def fnWordEndContiguousSpec : ChangeSpec := { name := "fnWordEndContiguous", fn := fun _ => fun
  | [d1, d2, d3] => { results := [.lit (.bool true)], args := [d1, d2, d3] }
  | _ => none }
def fnWordEndContiguousRow : OpenClaim := { program := "ytimaobpcefgdkaa", sum := "32240f926009a762601a970c983650128171cf2ff3cf154718ebf8f67f7b6814", func := "mvdan.cc/sh/v3/n010_12.FnWordEndContiguous", spec := "fnWordEndContiguous", unfollowed := true, recurses := true, apart := false }
def FnWordEndContiguousSaid : Prop := fnWordEndContiguousRow.holds Try.pinned (OpenSpec.ofChange fnWordEndContiguousSpec)

/-- ITS FALSE NEIGHBOUR: 'it returns false'. Refute it at one input. -/
def fnWordEndContiguousWrong : ChangeSpec := { name := "fnWordEndContiguous", fn := fun _ => fun
  | [d1, d2, d3] => { results := [.lit (.bool false)], args := [d1, d2, d3] }
  | _ => none }
def FnWordEndContiguousWrongFalsely : Prop := fnWordEndContiguousRow.holds Try.pinned (OpenSpec.ofChange fnWordEndContiguousWrong)

/-- 'n010_19.FnBinaryArithmAssociativeSpan': WHATEVER THE INPUT: true; the input reads as it did. -/
def fnBinaryArithmAssociativeSpanSpec : ChangeSpec := { name := "fnBinaryArithmAssociativeSpan", fn := fun _ => fun
  | [d1, d2] => { results := [.lit (.bool true)], args := [d1, d2] }
  | _ => none }
def fnBinaryArithmAssociativeSpanRow : OpenClaim := { program := "ytimaobpcefgdkaa", sum := "32240f926009a762601a970c983650128171cf2ff3cf154718ebf8f67f7b6814", func := "mvdan.cc/sh/v3/n010_19.FnBinaryArithmAssociativeSpan", spec := "fnBinaryArithmAssociativeSpan", unfollowed := true, recurses := true, apart := false }
def FnBinaryArithmAssociativeSpanSaid : Prop := fnBinaryArithmAssociativeSpanRow.holds Try.pinned (OpenSpec.ofChange fnBinaryArithmAssociativeSpanSpec)

/-- ITS FALSE NEIGHBOUR: 'it returns false'. Refute it at one input. -/
def fnBinaryArithmAssociativeSpanWrong : ChangeSpec := { name := "fnBinaryArithmAssociativeSpan", fn := fun _ => fun
  | [d1, d2] => { results := [.lit (.bool false)], args := [d1, d2] }
  | _ => none }
def FnBinaryArithmAssociativeSpanWrongFalsely : Prop := fnBinaryArithmAssociativeSpanRow.holds Try.pinned (OpenSpec.ofChange fnBinaryArithmAssociativeSpanWrong)

/- THE SECOND FORM. 'bulk': how many values and letters a reading holds, each counted each time it is reached (what is shared counts as often as it is met; a slice's spare places count too). A statement '..UptoSaid' is the law's where the arguments, and the package variables that the reading takes, are together of bulk at most 1048576: NARROWER than '..Said'. Prove '..Said' where nothing that the law and all that it calls make is longer than what came in: it says more and counts as full. Else prove '..UptoSaid'. A law counts once. -/
mutual
def uptoBulk {H : Type} : DataW H → Nat
  | .lit (.string bytes) => bytes.length + 1
  | .lit _ => 1
  | .nil => 1
  | .ptr d => uptoBulk d + 1
  | .slice elems spare => uptoBulkAll elems + uptoBulkAll spare + 1
  | .agg parts => uptoBulkAll parts + 1
  | .iface _ d => uptoBulk d + 1
  | .map entries => uptoBulkEntries entries + 1
  | .held _ => 1
def uptoBulkAll {H : Type} : List (DataW H) → Nat
  | [] => 0
  | d :: r => uptoBulk d + uptoBulkAll r
def uptoBulkEntries {H : Type} : List (Lit × DataW H) → Nat
  | [] => 0
  | x :: r => uptoBulkEntry x + uptoBulkEntries r
def uptoBulkEntry {H : Type} : Lit × DataW H → Nat
  | (.string bytes, d) => bytes.length + uptoBulk d + 1
  | (_, d) => uptoBulk d + 1
 end
def uptoSmall : (H : Type) → List (DataW H) → Bool := fun _ ds => decide (uptoBulkAll ds ≤ 1048576)
def OpenSpec.upto (s : _root_.Go.ChangeSpec) : _root_.Go.OpenSpec := { _root_.Go.OpenSpec.ofChange s with cond := some uptoSmall }

/-- 'n010_147.FnCallExprStartFromAssignsEndFromArgs', WHERE WHAT IT READS IS OF BULK AT MOST 1048576: true; the input reads as it did. -/
def fnCallExprStartFromAssignsEndFromArgsUptoRow : OpenClaim := { program := "ytimaobpcefgdkaa", sum := "32240f926009a762601a970c983650128171cf2ff3cf154718ebf8f67f7b6814", func := "mvdan.cc/sh/v3/n010_147.FnCallExprStartFromAssignsEndFromArgs", spec := "fnCallExprStartFromAssignsEndFromArgs", unfollowed := true, recurses := true, apart := false, narrowed := true }
def FnCallExprStartFromAssignsEndFromArgsUptoSaid : Prop := fnCallExprStartFromAssignsEndFromArgsUptoRow.holds Try.pinned (OpenSpec.upto fnCallExprStartFromAssignsEndFromArgsSpec)

/-- 'n010_128.FnStmtsPosIgnoresTail', WHERE WHAT IT READS IS OF BULK AT MOST 1048576: true; the input reads as it did. -/
def fnStmtsPosIgnoresTailUptoRow : OpenClaim := { program := "ytimaobpcefgdkaa", sum := "32240f926009a762601a970c983650128171cf2ff3cf154718ebf8f67f7b6814", func := "mvdan.cc/sh/v3/n010_128.FnStmtsPosIgnoresTail", spec := "fnStmtsPosIgnoresTail", apart := false, narrowed := true }
def FnStmtsPosIgnoresTailUptoSaid : Prop := fnStmtsPosIgnoresTailUptoRow.holds Try.pinned (OpenSpec.upto fnStmtsPosIgnoresTailSpec)

/-- 'n010_128.FnStmtsEndLastDominates', WHERE WHAT IT READS IS OF BULK AT MOST 1048576: true; the input reads as it did. -/
def fnStmtsEndLastDominatesUptoRow : OpenClaim := { program := "ytimaobpcefgdkaa", sum := "32240f926009a762601a970c983650128171cf2ff3cf154718ebf8f67f7b6814", func := "mvdan.cc/sh/v3/n010_128.FnStmtsEndLastDominates", spec := "fnStmtsEndLastDominates", unfollowed := true, recurses := true, apart := false, narrowed := true }
def FnStmtsEndLastDominatesUptoSaid : Prop := fnStmtsEndLastDominatesUptoRow.holds Try.pinned (OpenSpec.upto fnStmtsEndLastDominatesSpec)

/-- 'n010_147.FnStmtOfRedirectsEndsAtLastRedirect', WHERE WHAT IT READS IS OF BULK AT MOST 1048576: true; the input reads as it did. -/
def fnStmtOfRedirectsEndsAtLastRedirectUptoRow : OpenClaim := { program := "ytimaobpcefgdkaa", sum := "32240f926009a762601a970c983650128171cf2ff3cf154718ebf8f67f7b6814", func := "mvdan.cc/sh/v3/n010_147.FnStmtOfRedirectsEndsAtLastRedirect", spec := "fnStmtOfRedirectsEndsAtLastRedirect", unfollowed := true, recurses := true, apart := false, narrowed := true }
def FnStmtOfRedirectsEndsAtLastRedirectUptoSaid : Prop := fnStmtOfRedirectsEndsAtLastRedirectUptoRow.holds Try.pinned (OpenSpec.upto fnStmtOfRedirectsEndsAtLastRedirectSpec)

/-- 'n010_12.FnWordLitJoin', WHERE WHAT IT READS IS OF BULK AT MOST 1048576: true; the input reads as it did. -/
def fnWordLitJoinUptoRow : OpenClaim := { program := "ytimaobpcefgdkaa", sum := "32240f926009a762601a970c983650128171cf2ff3cf154718ebf8f67f7b6814", func := "mvdan.cc/sh/v3/n010_12.FnWordLitJoin", spec := "fnWordLitJoin", inPlace := ["internal/abi.NoEscape", "internal/bytealg.MakeNoZero"], apart := false, narrowed := true }
def FnWordLitJoinUptoSaid : Prop := fnWordLitJoinUptoRow.holds Try.pinned (OpenSpec.upto fnWordLitJoinSpec)

/-- 'n010_128.FnFileEndNoComments', WHERE WHAT IT READS IS OF BULK AT MOST 1048576: true; the input reads as it did. -/
def fnFileEndNoCommentsUptoRow : OpenClaim := { program := "ytimaobpcefgdkaa", sum := "32240f926009a762601a970c983650128171cf2ff3cf154718ebf8f67f7b6814", func := "mvdan.cc/sh/v3/n010_128.FnFileEndNoComments", spec := "fnFileEndNoComments", unfollowed := true, recurses := true, apart := false, narrowed := true }
def FnFileEndNoCommentsUptoSaid : Prop := fnFileEndNoCommentsUptoRow.holds Try.pinned (OpenSpec.upto fnFileEndNoCommentsSpec)

/-- 'n010_138.FnIncDecRoundTrip', WHERE WHAT IT READS IS OF BULK AT MOST 1048576: true; the input reads as it did. -/
def fnIncDecRoundTripUptoRow : OpenClaim := { program := "ytimaobpcefgdkaa", sum := "32240f926009a762601a970c983650128171cf2ff3cf154718ebf8f67f7b6814", func := "mvdan.cc/sh/v3/n010_138.FnIncDecRoundTrip", spec := "fnIncDecRoundTrip", apart := false, narrowed := true }
def FnIncDecRoundTripUptoSaid : Prop := fnIncDecRoundTripUptoRow.holds Try.pinned (OpenSpec.upto fnIncDecRoundTripSpec)

/-- 'n010_17.FnBinaryTestPosIsFirstInSource', WHERE WHAT IT READS IS OF BULK AT MOST 1048576: true; the input reads as it did. -/
def fnBinaryTestPosIsFirstInSourceUptoRow : OpenClaim := { program := "ytimaobpcefgdkaa", sum := "32240f926009a762601a970c983650128171cf2ff3cf154718ebf8f67f7b6814", func := "mvdan.cc/sh/v3/n010_17.FnBinaryTestPosIsFirstInSource", spec := "fnBinaryTestPosIsFirstInSource", unfollowed := true, recurses := true, apart := false, narrowed := true }
def FnBinaryTestPosIsFirstInSourceUptoSaid : Prop := fnBinaryTestPosIsFirstInSourceUptoRow.holds Try.pinned (OpenSpec.upto fnBinaryTestPosIsFirstInSourceSpec)

/-- 'n010_12.FnWordEndContiguous', WHERE WHAT IT READS IS OF BULK AT MOST 1048576: true; the input reads as it did. -/
def fnWordEndContiguousUptoRow : OpenClaim := { program := "ytimaobpcefgdkaa", sum := "32240f926009a762601a970c983650128171cf2ff3cf154718ebf8f67f7b6814", func := "mvdan.cc/sh/v3/n010_12.FnWordEndContiguous", spec := "fnWordEndContiguous", unfollowed := true, recurses := true, apart := false, narrowed := true }
def FnWordEndContiguousUptoSaid : Prop := fnWordEndContiguousUptoRow.holds Try.pinned (OpenSpec.upto fnWordEndContiguousSpec)

/-- 'n010_19.FnBinaryArithmAssociativeSpan', WHERE WHAT IT READS IS OF BULK AT MOST 1048576: true; the input reads as it did. -/
def fnBinaryArithmAssociativeSpanUptoRow : OpenClaim := { program := "ytimaobpcefgdkaa", sum := "32240f926009a762601a970c983650128171cf2ff3cf154718ebf8f67f7b6814", func := "mvdan.cc/sh/v3/n010_19.FnBinaryArithmAssociativeSpan", spec := "fnBinaryArithmAssociativeSpan", unfollowed := true, recurses := true, apart := false, narrowed := true }
def FnBinaryArithmAssociativeSpanUptoSaid : Prop := fnBinaryArithmAssociativeSpanUptoRow.holds Try.pinned (OpenSpec.upto fnBinaryArithmAssociativeSpanSpec)

end Rows
end Go.Proofs.Ytimaobpcefgdkaa
