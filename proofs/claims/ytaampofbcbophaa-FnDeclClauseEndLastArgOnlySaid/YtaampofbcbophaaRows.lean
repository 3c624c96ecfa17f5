/-
  No cell of these rows narrows 'for every input' (looked for: loops, veiled, ifaces, maps, wideKeys, modest, calm, conditions, laid).
  DERIVED. THE GIVEN ROWS OF THIS SEAT. 11 by the template 'for every input the law returns true; each argument reads behind the call as it read before'; 0 by the template 'total and deterministic' (their statements: YtaampofbcbophaaTotals.lean).
  GIVEN WITH THE SEED: the statements are not yours to turn. If you find one false, say at which input.
  Laid BY PROGRAM, IN A SANDBOX (cutbox-rows.mjs): the forced cells as the released guide's own fill.sh prints them over the translation ae65b2cbdad50735… (all of the seat's roots in one cut). By AI agents, Wed Nov 11 2026. No macro, syntax, notation, axiom, sorry.
-/
import Derived.Test.YtaampofbcbophaaChecked
import GoSem.Claim
import GoSem.ClaimJoined
import GoSem.ClaimMapViews
import Derived.JoinedTies
import Derived.KernelRfl
namespace Go.Proofs.Ytaampofbcbophaa
/- THE CELL 'sum', in the pinned program and in every row, IS THE sha256 OF THE DUMP (.gsa) THAT YtaampofbcbophaaProg.lean LOADS. Nothing in Lean hashes anything: it is a label: what it is worth is what the hold of that sum in a sandbox is worth. -/
noncomputable def Try.pinned : Pinned := { name := "ytaampofbcbophaa", sum := "ae65b2cbdad50735a32f426e674963a317ca8bb9e551ae34b7f1c88c590fb674", checked := Try.checked }
namespace Rows
def none {H : Type} : Left H := { results := [], args := [] }

/-- 'n010_161.FnArrayExprSpan': WHATEVER THE INPUT: true; the input reads as it did. -/
def fnArrayExprSpanSpec : ChangeSpec := { name := "fnArrayExprSpan", fn := fun _ => fun
  | [d1, d2, d3, d4] => { results := [.lit (.bool true)], args := [d1, d2, d3, d4] }
  | _ => none }
def fnArrayExprSpanRow : OpenClaim := { program := "ytaampofbcbophaa", sum := "ae65b2cbdad50735a32f426e674963a317ca8bb9e551ae34b7f1c88c590fb674", func := "mvdan.cc/sh/v3/n010_161.FnArrayExprSpan", spec := "fnArrayExprSpan", apart := false }
def FnArrayExprSpanSaid : Prop := fnArrayExprSpanRow.holds Try.pinned (OpenSpec.ofChange fnArrayExprSpanSpec)

/-- ITS FALSE NEIGHBOUR: 'it returns false'. Refute it at one input. -/
def fnArrayExprSpanWrong : ChangeSpec := { name := "fnArrayExprSpan", fn := fun _ => fun
  | [d1, d2, d3, d4] => { results := [.lit (.bool false)], args := [d1, d2, d3, d4] }
  | _ => none }
def FnArrayExprSpanWrongFalsely : Prop := fnArrayExprSpanRow.holds Try.pinned (OpenSpec.ofChange fnArrayExprSpanWrong)

/-- 'n010_132.FnAssignEndSpansItsText': WHATEVER THE INPUT: true; the input reads as it did. -/
def fnAssignEndSpansItsTextSpec : ChangeSpec := { name := "fnAssignEndSpansItsText", fn := fun _ => fun
  | [d1, d2, d3, d4, d5, d6, d7, d8, d9, d10] => { results := [.lit (.bool true)], args := [d1, d2, d3, d4, d5, d6, d7, d8, d9, d10] }
  | _ => none }
def fnAssignEndSpansItsTextRow : OpenClaim := { program := "ytaampofbcbophaa", sum := "ae65b2cbdad50735a32f426e674963a317ca8bb9e551ae34b7f1c88c590fb674", func := "mvdan.cc/sh/v3/n010_132.FnAssignEndSpansItsText", spec := "fnAssignEndSpansItsText", unfollowed := true, recurses := true, apart := false }
def FnAssignEndSpansItsTextSaid : Prop := fnAssignEndSpansItsTextRow.holds Try.pinned (OpenSpec.ofChange fnAssignEndSpansItsTextSpec)

/-- ITS FALSE NEIGHBOUR: 'it returns false'. Refute it at one input. -/
def fnAssignEndSpansItsTextWrong : ChangeSpec := { name := "fnAssignEndSpansItsText", fn := fun _ => fun
  | [d1, d2, d3, d4, d5, d6, d7, d8, d9, d10] => { results := [.lit (.bool false)], args := [d1, d2, d3, d4, d5, d6, d7, d8, d9, d10] }
  | _ => none }
def FnAssignEndSpansItsTextWrongFalsely : Prop := fnAssignEndSpansItsTextRow.holds Try.pinned (OpenSpec.ofChange fnAssignEndSpansItsTextWrong)

/-- 'n010_108.FnTestClauseEndAfterPos': WHATEVER THE INPUT: true; the input reads as it did. -/
def fnTestClauseEndAfterPosSpec : ChangeSpec := { name := "fnTestClauseEndAfterPos", fn := fun _ => fun
  | [d1, d2, d3, d4] => { results := [.lit (.bool true)], args := [d1, d2, d3, d4] }
  | _ => none }
def fnTestClauseEndAfterPosRow : OpenClaim := { program := "ytaampofbcbophaa", sum := "ae65b2cbdad50735a32f426e674963a317ca8bb9e551ae34b7f1c88c590fb674", func := "mvdan.cc/sh/v3/n010_108.FnTestClauseEndAfterPos", spec := "fnTestClauseEndAfterPos", apart := false }
def FnTestClauseEndAfterPosSaid : Prop := fnTestClauseEndAfterPosRow.holds Try.pinned (OpenSpec.ofChange fnTestClauseEndAfterPosSpec)

/-- ITS FALSE NEIGHBOUR: 'it returns false'. Refute it at one input. -/
def fnTestClauseEndAfterPosWrong : ChangeSpec := { name := "fnTestClauseEndAfterPos", fn := fun _ => fun
  | [d1, d2, d3, d4] => { results := [.lit (.bool false)], args := [d1, d2, d3, d4] }
  | _ => none }
def FnTestClauseEndAfterPosWrongFalsely : Prop := fnTestClauseEndAfterPosRow.holds Try.pinned (OpenSpec.ofChange fnTestClauseEndAfterPosWrong)

/-- 'n010_161.FnDeclClauseEndLastArgOnly': WHATEVER THE INPUT: true; the input reads as it did. -/
def fnDeclClauseEndLastArgOnlySpec : ChangeSpec := { name := "fnDeclClauseEndLastArgOnly", fn := fun _ => fun
  | [d1, d2, d3, d4, d5, d6, d7, d8, d9, d10, d11] => { results := [.lit (.bool true)], args := [d1, d2, d3, d4, d5, d6, d7, d8, d9, d10, d11] }
  | _ => none }
def fnDeclClauseEndLastArgOnlyRow : OpenClaim := { program := "ytaampofbcbophaa", sum := "ae65b2cbdad50735a32f426e674963a317ca8bb9e551ae34b7f1c88c590fb674", func := "mvdan.cc/sh/v3/n010_161.FnDeclClauseEndLastArgOnly", spec := "fnDeclClauseEndLastArgOnly", unfollowed := true, recurses := true, apart := false }
def FnDeclClauseEndLastArgOnlySaid : Prop := fnDeclClauseEndLastArgOnlyRow.holds Try.pinned (OpenSpec.ofChange fnDeclClauseEndLastArgOnlySpec)

/-- ITS FALSE NEIGHBOUR: 'it returns false'. Refute it at one input. -/
def fnDeclClauseEndLastArgOnlyWrong : ChangeSpec := { name := "fnDeclClauseEndLastArgOnly", fn := fun _ => fun
  | [d1, d2, d3, d4, d5, d6, d7, d8, d9, d10, d11] => { results := [.lit (.bool false)], args := [d1, d2, d3, d4, d5, d6, d7, d8, d9, d10, d11] }
  | _ => none }
def FnDeclClauseEndLastArgOnlyWrongFalsely : Prop := fnDeclClauseEndLastArgOnlyRow.holds Try.pinned (OpenSpec.ofChange fnDeclClauseEndLastArgOnlyWrong)

/-- 'n010_143.FnFuncDeclEndThroughPipeline': WHATEVER THE INPUT: true; the input reads as it did. -/
def fnFuncDeclEndThroughPipelineSpec : ChangeSpec := { name := "fnFuncDeclEndThroughPipeline", fn := fun _ => fun
  | [d1, d2, d3, d4, d5, d6, d7, d8, d9, d10, d11, d12] => { results := [.lit (.bool true)], args := [d1, d2, d3, d4, d5, d6, d7, d8, d9, d10, d11, d12] }
  | _ => none }
def fnFuncDeclEndThroughPipelineRow : OpenClaim := { program := "ytaampofbcbophaa", sum := "ae65b2cbdad50735a32f426e674963a317ca8bb9e551ae34b7f1c88c590fb674", func := "mvdan.cc/sh/v3/n010_143.FnFuncDeclEndThroughPipeline", spec := "fnFuncDeclEndThroughPipeline", unfollowed := true, recurses := true, apart := false }
def FnFuncDeclEndThroughPipelineSaid : Prop := fnFuncDeclEndThroughPipelineRow.holds Try.pinned (OpenSpec.ofChange fnFuncDeclEndThroughPipelineSpec)

/-- ITS FALSE NEIGHBOUR: 'it returns false'. Refute it at one input. -/
def fnFuncDeclEndThroughPipelineWrong : ChangeSpec := { name := "fnFuncDeclEndThroughPipeline", fn := fun _ => fun
  | [d1, d2, d3, d4, d5, d6, d7, d8, d9, d10, d11, d12] => { results := [.lit (.bool false)], args := [d1, d2, d3, d4, d5, d6, d7, d8, d9, d10, d11, d12] }
  | _ => none }
def FnFuncDeclEndThroughPipelineWrongFalsely : Prop := fnFuncDeclEndThroughPipelineRow.holds Try.pinned (OpenSpec.ofChange fnFuncDeclEndThroughPipelineWrong)

/-- 'n010_146.FnTestDeclEndCallAgrees': WHATEVER THE INPUT: true; the input reads as it did. -/
def fnTestDeclEndCallAgreesSpec : ChangeSpec := { name := "fnTestDeclEndCallAgrees", fn := fun _ => fun
  | [d1, d2, d3, d4, d5] => { results := [.lit (.bool true)], args := [d1, d2, d3, d4, d5] }
  | _ => none }
def fnTestDeclEndCallAgreesRow : OpenClaim := { program := "ytaampofbcbophaa", sum := "ae65b2cbdad50735a32f426e674963a317ca8bb9e551ae34b7f1c88c590fb674", func := "mvdan.cc/sh/v3/n010_146.FnTestDeclEndCallAgrees", spec := "fnTestDeclEndCallAgrees", unfollowed := true, recurses := true, apart := false }
def FnTestDeclEndCallAgreesSaid : Prop := fnTestDeclEndCallAgreesRow.holds Try.pinned (OpenSpec.ofChange fnTestDeclEndCallAgreesSpec)

/-- ITS FALSE NEIGHBOUR: 'it returns false'. Refute it at one input. -/
def fnTestDeclEndCallAgreesWrong : ChangeSpec := { name := "fnTestDeclEndCallAgrees", fn := fun _ => fun
  | [d1, d2, d3, d4, d5] => { results := [.lit (.bool false)], args := [d1, d2, d3, d4, d5] }
  | _ => none }
def FnTestDeclEndCallAgreesWrongFalsely : Prop := fnTestDeclEndCallAgreesRow.holds Try.pinned (OpenSpec.ofChange fnTestDeclEndCallAgreesWrong)

/-- 'n010_21.FnLitWordSpan': WHATEVER THE INPUT: true; the input reads as it did. -/
def fnLitWordSpanSpec : ChangeSpec := { name := "fnLitWordSpan", fn := fun _ => fun
  | [d1, d2, d3, d4, d5, d6, d7, d8, d9, d10] => { results := [.lit (.bool true)], args := [d1, d2, d3, d4, d5, d6, d7, d8, d9, d10] }
  | _ => none }
def fnLitWordSpanRow : OpenClaim := { program := "ytaampofbcbophaa", sum := "ae65b2cbdad50735a32f426e674963a317ca8bb9e551ae34b7f1c88c590fb674", func := "mvdan.cc/sh/v3/n010_21.FnLitWordSpan", spec := "fnLitWordSpan", inPlace := ["internal/abi.NoEscape", "internal/bytealg.MakeNoZero"], unfollowed := true, recurses := true, apart := false }
def FnLitWordSpanSaid : Prop := fnLitWordSpanRow.holds Try.pinned (OpenSpec.ofChange fnLitWordSpanSpec)

/-- ITS FALSE NEIGHBOUR: 'it returns false'. Refute it at one input. -/
def fnLitWordSpanWrong : ChangeSpec := { name := "fnLitWordSpan", fn := fun _ => fun
  | [d1, d2, d3, d4, d5, d6, d7, d8, d9, d10] => { results := [.lit (.bool false)], args := [d1, d2, d3, d4, d5, d6, d7, d8, d9, d10] }
  | _ => none }
def FnLitWordSpanWrongFalsely : Prop := fnLitWordSpanRow.holds Try.pinned (OpenSpec.ofChange fnLitWordSpanWrong)

/-- 'n010_19.FnUnaryArithmSpanCoversOperand': WHATEVER THE INPUT: true; the input reads as it did. -/
def fnUnaryArithmSpanCoversOperandSpec : ChangeSpec := { name := "fnUnaryArithmSpanCoversOperand", fn := fun _ => fun
  | [d1, d2, d3, d4, d5] => { results := [.lit (.bool true)], args := [d1, d2, d3, d4, d5] }
  | _ => none }
def fnUnaryArithmSpanCoversOperandRow : OpenClaim := { program := "ytaampofbcbophaa", sum := "ae65b2cbdad50735a32f426e674963a317ca8bb9e551ae34b7f1c88c590fb674", func := "mvdan.cc/sh/v3/n010_19.FnUnaryArithmSpanCoversOperand", spec := "fnUnaryArithmSpanCoversOperand", unfollowed := true, recurses := true, apart := false }
def FnUnaryArithmSpanCoversOperandSaid : Prop := fnUnaryArithmSpanCoversOperandRow.holds Try.pinned (OpenSpec.ofChange fnUnaryArithmSpanCoversOperandSpec)

/-- ITS FALSE NEIGHBOUR: 'it returns false'. Refute it at one input. -/
def fnUnaryArithmSpanCoversOperandWrong : ChangeSpec := { name := "fnUnaryArithmSpanCoversOperand", fn := fun _ => fun
  | [d1, d2, d3, d4, d5] => { results := [.lit (.bool false)], args := [d1, d2, d3, d4, d5] }
  | _ => none }
def FnUnaryArithmSpanCoversOperandWrongFalsely : Prop := fnUnaryArithmSpanCoversOperandRow.holds Try.pinned (OpenSpec.ofChange fnUnaryArithmSpanCoversOperandWrong)

/-- 'n010_11.FnStmtEndWithoutTerminator': WHATEVER THE INPUT: true; the input reads as it did. -/
def fnStmtEndWithoutTerminatorSpec : ChangeSpec := { name := "fnStmtEndWithoutTerminator", fn := fun _ => fun
  | [d1, d2, d3, d4, d5, d6, d7, d8, d9, d10, d11] => { results := [.lit (.bool true)], args := [d1, d2, d3, d4, d5, d6, d7, d8, d9, d10, d11] }
  | _ => none }
def fnStmtEndWithoutTerminatorRow : OpenClaim := { program := "ytaampofbcbophaa", sum := "ae65b2cbdad50735a32f426e674963a317ca8bb9e551ae34b7f1c88c590fb674", func := "mvdan.cc/sh/v3/n010_11.FnStmtEndWithoutTerminator", spec := "fnStmtEndWithoutTerminator", unfollowed := true, recurses := true, apart := false }
def FnStmtEndWithoutTerminatorSaid : Prop := fnStmtEndWithoutTerminatorRow.holds Try.pinned (OpenSpec.ofChange fnStmtEndWithoutTerminatorSpec)

/-- ITS FALSE NEIGHBOUR: 'it returns false'. Refute it at one input. -/
def fnStmtEndWithoutTerminatorWrong : ChangeSpec := { name := "fnStmtEndWithoutTerminator", fn := fun _ => fun
  | [d1, d2, d3, d4, d5, d6, d7, d8, d9, d10, d11] => { results := [.lit (.bool false)], args := [d1, d2, d3, d4, d5, d6, d7, d8, d9, d10, d11] }
  | _ => none }
def FnStmtEndWithoutTerminatorWrongFalsely : Prop := fnStmtEndWithoutTerminatorRow.holds Try.pinned (OpenSpec.ofChange fnStmtEndWithoutTerminatorWrong)

/-- 'n010_132.FnAssignSpanIsShiftInvariant': WHATEVER THE INPUT: true; the input reads as it did. -/
def fnAssignSpanIsShiftInvariantSpec : ChangeSpec := { name := "fnAssignSpanIsShiftInvariant", fn := fun _ => fun
  | [d1, d2, d3, d4, d5, d6, d7, d8, d9] => { results := [.lit (.bool true)], args := [d1, d2, d3, d4, d5, d6, d7, d8, d9] }
  | _ => none }
def fnAssignSpanIsShiftInvariantRow : OpenClaim := { program := "ytaampofbcbophaa", sum := "ae65b2cbdad50735a32f426e674963a317ca8bb9e551ae34b7f1c88c590fb674", func := "mvdan.cc/sh/v3/n010_132.FnAssignSpanIsShiftInvariant", spec := "fnAssignSpanIsShiftInvariant", unfollowed := true, recurses := true, apart := false }
def FnAssignSpanIsShiftInvariantSaid : Prop := fnAssignSpanIsShiftInvariantRow.holds Try.pinned (OpenSpec.ofChange fnAssignSpanIsShiftInvariantSpec)

/-- ITS FALSE NEIGHBOUR: 'it returns false'. Refute it at one input. -/
def fnAssignSpanIsShiftInvariantWrong : ChangeSpec := { name := "fnAssignSpanIsShiftInvariant", fn := fun _ => fun
  | [d1, d2, d3, d4, d5, d6, d7, d8, d9] => { results := [.lit (.bool false)], args := [d1, d2, d3, d4, d5, d6, d7, d8, d9] }
  | _ => none }
def FnAssignSpanIsShiftInvariantWrongFalsely : Prop := fnAssignSpanIsShiftInvariantRow.holds Try.pinned (OpenSpec.ofChange fnAssignSpanIsShiftInvariantWrong)

/-- 'n010_131.FnArithmExpSpan': WHATEVER THE INPUT: true; the input reads as it did. -/
def fnArithmExpSpanSpec : ChangeSpec := { name := "fnArithmExpSpan", fn := fun _ => fun
  | [d1, d2, d3, d4, d5] => { results := [.lit (.bool true)], args := [d1, d2, d3, d4, d5] }
  | _ => none }
def fnArithmExpSpanRow : OpenClaim := { program := "ytaampofbcbophaa", sum := "ae65b2cbdad50735a32f426e674963a317ca8bb9e551ae34b7f1c88c590fb674", func := "mvdan.cc/sh/v3/n010_131.FnArithmExpSpan", spec := "fnArithmExpSpan", apart := false }
def FnArithmExpSpanSaid : Prop := fnArithmExpSpanRow.holds Try.pinned (OpenSpec.ofChange fnArithmExpSpanSpec)

/-- ITS FALSE NEIGHBOUR: 'it returns false'. Refute it at one input. -/
def fnArithmExpSpanWrong : ChangeSpec := { name := "fnArithmExpSpan", fn := fun _ => fun
  | [d1, d2, d3, d4, d5] => { results := [.lit (.bool false)], args := [d1, d2, d3, d4, d5] }
  | _ => none }
def FnArithmExpSpanWrongFalsely : Prop := fnArithmExpSpanRow.holds Try.pinned (OpenSpec.ofChange fnArithmExpSpanWrong)

/- THE SECOND FORM. 'bulk': how many values and letters a reading holds, each counted each time it is reached (what is shared counts as often as it is met; a slice's spare places count too). A statement '..UptoSaid' is the law's where the arguments, and the package variables that the reading takes, are together of bulk at most 1048576: NARROWER than '..Said'. Prove '..Said' where nothing that the law and all that it calls make is longer than what came in: it says more and counts as full. Else prove '..UptoSaid'. A law counts once. -/
mutual
def uptoBulk {H : Type} : DataW H → Nat
  | .lit (.string bytes) => bytes.length + 1
  | .lit _ => 1
  | .nil => 1
  | .ptr d => uptoBulk d + 1
  | .slice elems spare => uptoBulkAll elems + uptoBulkAll spare + 1
  | .agg parts => uptoBulkAll parts + 1
  | .iface _ d => uptoBulk d + 1
  | .map entries => uptoBulkEntries entries + 1
  | .held _ => 1
def uptoBulkAll {H : Type} : List (DataW H) → Nat
  | [] => 0
  | d :: r => uptoBulk d + uptoBulkAll r
def uptoBulkEntries {H : Type} : List (Lit × DataW H) → Nat
  | [] => 0
  | x :: r => uptoBulkEntry x + uptoBulkEntries r
def uptoBulkEntry {H : Type} : Lit × DataW H → Nat
  | (.string bytes, d) => bytes.length + uptoBulk d + 1
  | (_, d) => uptoBulk d + 1
 end
def uptoSmall : (H : Type) → List (DataW H) → Bool := fun _ ds => decide (uptoBulkAll ds ≤ 1048576)
def OpenSpec.upto (s : _root_.Go.ChangeSpec) : _root_.Go.OpenSpec := { _root_.Go.OpenSpec.ofChange s with cond := some uptoSmall }

/-- 'n010_161.FnArrayExprSpan', WHERE WHAT IT READS IS OF BULK AT MOST 1048576: true; the input reads as it did. -/
def fnArrayExprSpanUptoRow : OpenClaim := { program := "ytaampofbcbophaa", sum := "ae65b2cbdad50735a32f426e674963a317ca8bb9e551ae34b7f1c88c590fb674", func := "mvdan.cc/sh/v3/n010_161.FnArrayExprSpan", spec := "fnArrayExprSpan", apart := false, narrowed := true }
def FnArrayExprSpanUptoSaid : Prop := fnArrayExprSpanUptoRow.holds Try.pinned (OpenSpec.upto fnArrayExprSpanSpec)

/-- 'n010_132.FnAssignEndSpansItsText', WHERE WHAT IT READS IS OF BULK AT MOST 1048576: true; the input reads as it did. -/
def fnAssignEndSpansItsTextUptoRow : OpenClaim := { program := "ytaampofbcbophaa", sum := "ae65b2cbdad50735a32f426e674963a317ca8bb9e551ae34b7f1c88c590fb674", func := "mvdan.cc/sh/v3/n010_132.FnAssignEndSpansItsText", spec := "fnAssignEndSpansItsText", unfollowed := true, recurses := true, apart := false, narrowed := true }
def FnAssignEndSpansItsTextUptoSaid : Prop := fnAssignEndSpansItsTextUptoRow.holds Try.pinned (OpenSpec.upto fnAssignEndSpansItsTextSpec)

/-- 'n010_108.FnTestClauseEndAfterPos', WHERE WHAT IT READS IS OF BULK AT MOST 1048576: true; the input reads as it did. -/
def fnTestClauseEndAfterPosUptoRow : OpenClaim := { program := "ytaampofbcbophaa", sum := "ae65b2cbdad50735a32f426e674963a317ca8bb9e551ae34b7f1c88c590fb674", func := "mvdan.cc/sh/v3/n010_108.FnTestClauseEndAfterPos", spec := "fnTestClauseEndAfterPos", apart := false, narrowed := true }
def FnTestClauseEndAfterPosUptoSaid : Prop := fnTestClauseEndAfterPosUptoRow.holds Try.pinned (OpenSpec.upto fnTestClauseEndAfterPosSpec)

/-- 'n010_161.FnDeclClauseEndLastArgOnly', WHERE WHAT IT READS IS OF BULK AT MOST 1048576: true; the input reads as it did. -/
def fnDeclClauseEndLastArgOnlyUptoRow : OpenClaim := { program := "ytaampofbcbophaa", sum := "ae65b2cbdad50735a32f426e674963a317ca8bb9e551ae34b7f1c88c590fb674", func := "mvdan.cc/sh/v3/n010_161.FnDeclClauseEndLastArgOnly", spec := "fnDeclClauseEndLastArgOnly", unfollowed := true, recurses := true, apart := false, narrowed := true }
def FnDeclClauseEndLastArgOnlyUptoSaid : Prop := fnDeclClauseEndLastArgOnlyUptoRow.holds Try.pinned (OpenSpec.upto fnDeclClauseEndLastArgOnlySpec)

/-- 'n010_143.FnFuncDeclEndThroughPipeline', WHERE WHAT IT READS IS OF BULK AT MOST 1048576: true; the input reads as it did. -/
def fnFuncDeclEndThroughPipelineUptoRow : OpenClaim := { program := "ytaampofbcbophaa", sum := "ae65b2cbdad50735a32f426e674963a317ca8bb9e551ae34b7f1c88c590fb674", func := "mvdan.cc/sh/v3/n010_143.FnFuncDeclEndThroughPipeline", spec := "fnFuncDeclEndThroughPipeline", unfollowed := true, recurses := true, apart := false, narrowed := true }
def FnFuncDeclEndThroughPipelineUptoSaid : Prop := fnFuncDeclEndThroughPipelineUptoRow.holds Try.pinned (OpenSpec.upto fnFuncDeclEndThroughPipelineSpec)

/-- 'n010_146.FnTestDeclEndCallAgrees', WHERE WHAT IT READS IS OF BULK AT MOST 1048576: true; the input reads as it did. -/
def fnTestDeclEndCallAgreesUptoRow : OpenClaim := { program := "ytaampofbcbophaa", sum := "ae65b2cbdad50735a32f426e674963a317ca8bb9e551ae34b7f1c88c590fb674", func := "mvdan.cc/sh/v3/n010_146.FnTestDeclEndCallAgrees", spec := "fnTestDeclEndCallAgrees", unfollowed := true, recurses := true, apart := false, narrowed := true }
def FnTestDeclEndCallAgreesUptoSaid : Prop := fnTestDeclEndCallAgreesUptoRow.holds Try.pinned (OpenSpec.upto fnTestDeclEndCallAgreesSpec)

/-- 'n010_21.FnLitWordSpan', WHERE WHAT IT READS IS OF BULK AT MOST 1048576: true; the input reads as it did. -/
def fnLitWordSpanUptoRow : OpenClaim := { program := "ytaampofbcbophaa", sum := "ae65b2cbdad50735a32f426e674963a317ca8bb9e551ae34b7f1c88c590fb674", func := "mvdan.cc/sh/v3/n010_21.FnLitWordSpan", spec := "fnLitWordSpan", inPlace := ["internal/abi.NoEscape", "internal/bytealg.MakeNoZero"], unfollowed := true, recurses := true, apart := false, narrowed := true }
def FnLitWordSpanUptoSaid : Prop := fnLitWordSpanUptoRow.holds Try.pinned (OpenSpec.upto fnLitWordSpanSpec)

/-- 'n010_19.FnUnaryArithmSpanCoversOperand', WHERE WHAT IT READS IS OF BULK AT MOST 1048576: true; the input reads as it did. -/
def fnUnaryArithmSpanCoversOperandUptoRow : OpenClaim := { program := "ytaampofbcbophaa", sum := "ae65b2cbdad50735a32f426e674963a317ca8bb9e551ae34b7f1c88c590fb674", func := "mvdan.cc/sh/v3/n010_19.FnUnaryArithmSpanCoversOperand", spec := "fnUnaryArithmSpanCoversOperand", unfollowed := true, recurses := true, apart := false, narrowed := true }
def FnUnaryArithmSpanCoversOperandUptoSaid : Prop := fnUnaryArithmSpanCoversOperandUptoRow.holds Try.pinned (OpenSpec.upto fnUnaryArithmSpanCoversOperandSpec)

/-- 'n010_11.FnStmtEndWithoutTerminator', WHERE WHAT IT READS IS OF BULK AT MOST 1048576: true; the input reads as it did. -/
def fnStmtEndWithoutTerminatorUptoRow : OpenClaim := { program := "ytaampofbcbophaa", sum := "ae65b2cbdad50735a32f426e674963a317ca8bb9e551ae34b7f1c88c590fb674", func := "mvdan.cc/sh/v3/n010_11.FnStmtEndWithoutTerminator", spec := "fnStmtEndWithoutTerminator", unfollowed := true, recurses := true, apart := false, narrowed := true }
def FnStmtEndWithoutTerminatorUptoSaid : Prop := fnStmtEndWithoutTerminatorUptoRow.holds Try.pinned (OpenSpec.upto fnStmtEndWithoutTerminatorSpec)

/-- 'n010_132.FnAssignSpanIsShiftInvariant', WHERE WHAT IT READS IS OF BULK AT MOST 1048576: true; the input reads as it did. -/
def fnAssignSpanIsShiftInvariantUptoRow : OpenClaim := { program := "ytaampofbcbophaa", sum := "ae65b2cbdad50735a32f426e674963a317ca8bb9e551ae34b7f1c88c590fb674", func := "mvdan.cc/sh/v3/n010_132.FnAssignSpanIsShiftInvariant", spec := "fnAssignSpanIsShiftInvariant", unfollowed := true, recurses := true, apart := false, narrowed := true }
def FnAssignSpanIsShiftInvariantUptoSaid : Prop := fnAssignSpanIsShiftInvariantUptoRow.holds Try.pinned (OpenSpec.upto fnAssignSpanIsShiftInvariantSpec)

/-- 'n010_131.FnArithmExpSpan', WHERE WHAT IT READS IS OF BULK AT MOST 1048576: true; the input reads as it did. -/
def fnArithmExpSpanUptoRow : OpenClaim := { program := "ytaampofbcbophaa", sum := "ae65b2cbdad50735a32f426e674963a317ca8bb9e551ae34b7f1c88c590fb674", func := "mvdan.cc/sh/v3/n010_131.FnArithmExpSpan", spec := "fnArithmExpSpan", apart := false, narrowed := true }
def FnArithmExpSpanUptoSaid : Prop := fnArithmExpSpanUptoRow.holds Try.pinned (OpenSpec.upto fnArithmExpSpanSpec)

end Rows
end Go.Proofs.Ytaampofbcbophaa
