/-
  No cell of these rows narrows 'for every input' (looked for: loops, veiled, ifaces, maps, wideKeys, modest, calm, conditions, laid).
  DERIVED. THE GIVEN ROWS OF THIS SEAT. 10 by the template 'for every input the law returns true; each argument reads behind the call as it read before'; 0 by the template 'total and deterministic' (their statements: YtnjdffnbkjjmeaaTotals.lean).
  GIVEN WITH THE SEED: the statements are not yours to turn. If you find one false, say at which input.
  Laid BY PROGRAM, IN A SANDBOX (cutbox-rows.mjs): the forced cells as the released guide's own fill.sh prints them over the translation ae6de53c3d0080d8… (all of the seat's roots in one cut). By AI agents, Wed Nov 11 2026. No macro, syntax, notation, axiom, sorry.
-/
import Derived.Test.YtnjdffnbkjjmeaaChecked
import GoSem.Claim
import GoSem.ClaimJoined
import GoSem.ClaimMapViews
import Derived.JoinedTies
import Derived.KernelRfl
namespace Go.Proofs.Ytnjdffnbkjjmeaa
/- THE CELL 'sum', in the pinned program and in every row, IS THE sha256 OF THE DUMP (.gsa) THAT YtnjdffnbkjjmeaaProg.lean LOADS. Nothing in Lean hashes anything: it is a label: what it is worth is what the hold of that sum in a sandbox is worth. -/
noncomputable def Try.pinned : Pinned := { name := "ytnjdffnbkjjmeaa", sum := "ae6de53c3d0080d803bf8bbaea8069b0ec4c3d7acd1538773dbf9f271f3422da", checked := Try.checked }
namespace Rows
def none {H : Type} : Left H := { results := [], args := [] }

/-- 'n010_153.FnInlineSubshellExact': WHATEVER THE INPUT: true; the input reads as it did. -/
def fnInlineSubshellExactSpec : ChangeSpec := { name := "fnInlineSubshellExact", fn := fun _ => fun
  | [d1, d2, d3, d4] => { results := [.lit (.bool true)], args := [d1, d2, d3, d4] }
  | _ => none }
def fnInlineSubshellExactRow : OpenClaim := { program := "ytnjdffnbkjjmeaa", sum := "ae6de53c3d0080d803bf8bbaea8069b0ec4c3d7acd1538773dbf9f271f3422da", func := "mvdan.cc/sh/v3/n010_153.FnInlineSubshellExact", spec := "fnInlineSubshellExact", apart := false }
def FnInlineSubshellExactSaid : Prop := fnInlineSubshellExactRow.holds Try.pinned (OpenSpec.ofChange fnInlineSubshellExactSpec)

/-- ITS FALSE NEIGHBOUR: 'it returns false'. Refute it at one input. -/
def fnInlineSubshellExactWrong : ChangeSpec := { name := "fnInlineSubshellExact", fn := fun _ => fun
  | [d1, d2, d3, d4] => { results := [.lit (.bool false)], args := [d1, d2, d3, d4] }
  | _ => none }
def FnInlineSubshellExactWrongFalsely : Prop := fnInlineSubshellExactRow.holds Try.pinned (OpenSpec.ofChange fnInlineSubshellExactWrong)

/-- 'n010_149.FnRemoveParensTestIsIdempotent': WHATEVER THE INPUT: true; the input reads as it did. -/
def fnRemoveParensTestIsIdempotentSpec : ChangeSpec := { name := "fnRemoveParensTestIsIdempotent", fn := fun _ => fun
  | [d1, d2, d3] => { results := [.lit (.bool true)], args := [d1, d2, d3] }
  | _ => none }
def fnRemoveParensTestIsIdempotentRow : OpenClaim := { program := "ytnjdffnbkjjmeaa", sum := "ae6de53c3d0080d803bf8bbaea8069b0ec4c3d7acd1538773dbf9f271f3422da", func := "mvdan.cc/sh/v3/n010_149.FnRemoveParensTestIsIdempotent", spec := "fnRemoveParensTestIsIdempotent", apart := false }
def FnRemoveParensTestIsIdempotentSaid : Prop := fnRemoveParensTestIsIdempotentRow.holds Try.pinned (OpenSpec.ofChange fnRemoveParensTestIsIdempotentSpec)

/-- ITS FALSE NEIGHBOUR: 'it returns false'. Refute it at one input. -/
def fnRemoveParensTestIsIdempotentWrong : ChangeSpec := { name := "fnRemoveParensTestIsIdempotent", fn := fun _ => fun
  | [d1, d2, d3] => { results := [.lit (.bool false)], args := [d1, d2, d3] }
  | _ => none }
def FnRemoveParensTestIsIdempotentWrongFalsely : Prop := fnRemoveParensTestIsIdempotentRow.holds Try.pinned (OpenSpec.ofChange fnRemoveParensTestIsIdempotentWrong)

/-- 'n010_144.FnUnquotedWordPartEscapeRoundTrip': WHATEVER THE INPUT: true; the input reads as it did. -/
def fnUnquotedWordPartEscapeRoundTripSpec : ChangeSpec := { name := "fnUnquotedWordPartEscapeRoundTrip", fn := fun _ => fun
  | [d] => { results := [.lit (.bool true)], args := [d] }
  | _ => none }
def fnUnquotedWordPartEscapeRoundTripRow : OpenClaim := { program := "ytnjdffnbkjjmeaa", sum := "ae6de53c3d0080d803bf8bbaea8069b0ec4c3d7acd1538773dbf9f271f3422da", func := "mvdan.cc/sh/v3/n010_144.FnUnquotedWordPartEscapeRoundTrip", spec := "fnUnquotedWordPartEscapeRoundTrip", unfollowed := true, recurses := true, apart := false }
def FnUnquotedWordPartEscapeRoundTripSaid : Prop := fnUnquotedWordPartEscapeRoundTripRow.holds Try.pinned (OpenSpec.ofChange fnUnquotedWordPartEscapeRoundTripSpec)

/-- ITS FALSE NEIGHBOUR: 'it returns false'. Refute it at one input. -/
def fnUnquotedWordPartEscapeRoundTripWrong : ChangeSpec := { name := "fnUnquotedWordPartEscapeRoundTrip", fn := fun _ => fun
  | [d] => { results := [.lit (.bool false)], args := [d] }
  | _ => none }
def FnUnquotedWordPartEscapeRoundTripWrongFalsely : Prop := fnUnquotedWordPartEscapeRoundTripRow.holds Try.pinned (OpenSpec.ofChange fnUnquotedWordPartEscapeRoundTripWrong)

/-- 'n010_144.FnPostNestedRestoresOuter': WHATEVER THE INPUT: true; the input reads as it did. -/
def fnPostNestedRestoresOuterSpec : ChangeSpec := { name := "fnPostNestedRestoresOuter", fn := fun _ => fun
  | [d1, d2] => { results := [.lit (.bool true)], args := [d1, d2] }
  | _ => none }
def fnPostNestedRestoresOuterRow : OpenClaim := { program := "ytnjdffnbkjjmeaa", sum := "ae6de53c3d0080d803bf8bbaea8069b0ec4c3d7acd1538773dbf9f271f3422da", func := "mvdan.cc/sh/v3/n010_144.FnPostNestedRestoresOuter", spec := "fnPostNestedRestoresOuter", unfollowed := true, recurses := true, apart := false }
def FnPostNestedRestoresOuterSaid : Prop := fnPostNestedRestoresOuterRow.holds Try.pinned (OpenSpec.ofChange fnPostNestedRestoresOuterSpec)

/-- ITS FALSE NEIGHBOUR: 'it returns false'. Refute it at one input. -/
def fnPostNestedRestoresOuterWrong : ChangeSpec := { name := "fnPostNestedRestoresOuter", fn := fun _ => fun
  | [d1, d2] => { results := [.lit (.bool false)], args := [d1, d2] }
  | _ => none }
def FnPostNestedRestoresOuterWrongFalsely : Prop := fnPostNestedRestoresOuterRow.holds Try.pinned (OpenSpec.ofChange fnPostNestedRestoresOuterWrong)

/-- 'n010_153.FnRemoveParensArithmStripsExactlyOuterParens': WHATEVER THE INPUT: true; the input reads as it did. -/
def fnRemoveParensArithmStripsExactlyOuterParensSpec : ChangeSpec := { name := "fnRemoveParensArithmStripsExactlyOuterParens", fn := fun _ => fun
  | [d1, d2, d3] => { results := [.lit (.bool true)], args := [d1, d2, d3] }
  | _ => none }
def fnRemoveParensArithmStripsExactlyOuterParensRow : OpenClaim := { program := "ytnjdffnbkjjmeaa", sum := "ae6de53c3d0080d803bf8bbaea8069b0ec4c3d7acd1538773dbf9f271f3422da", func := "mvdan.cc/sh/v3/n010_153.FnRemoveParensArithmStripsExactlyOuterParens", spec := "fnRemoveParensArithmStripsExactlyOuterParens", apart := false }
def FnRemoveParensArithmStripsExactlyOuterParensSaid : Prop := fnRemoveParensArithmStripsExactlyOuterParensRow.holds Try.pinned (OpenSpec.ofChange fnRemoveParensArithmStripsExactlyOuterParensSpec)

/-- ITS FALSE NEIGHBOUR: 'it returns false'. Refute it at one input. -/
def fnRemoveParensArithmStripsExactlyOuterParensWrong : ChangeSpec := { name := "fnRemoveParensArithmStripsExactlyOuterParens", fn := fun _ => fun
  | [d1, d2, d3] => { results := [.lit (.bool false)], args := [d1, d2, d3] }
  | _ => none }
def FnRemoveParensArithmStripsExactlyOuterParensWrongFalsely : Prop := fnRemoveParensArithmStripsExactlyOuterParensRow.holds Try.pinned (OpenSpec.ofChange fnRemoveParensArithmStripsExactlyOuterParensWrong)

/-- 'n010_149.FnRemoveNegateTestNegatingTwiceRestoresOperator': WHATEVER THE INPUT: true; the input reads as it did. -/
def fnRemoveNegateTestNegatingTwiceRestoresOperatorSpec : ChangeSpec := { name := "fnRemoveNegateTestNegatingTwiceRestoresOperator", fn := fun _ => fun
  | [d1, d2, d3] => { results := [.lit (.bool true)], args := [d1, d2, d3] }
  | _ => none }
def fnRemoveNegateTestNegatingTwiceRestoresOperatorRow : OpenClaim := { program := "ytnjdffnbkjjmeaa", sum := "ae6de53c3d0080d803bf8bbaea8069b0ec4c3d7acd1538773dbf9f271f3422da", func := "mvdan.cc/sh/v3/n010_149.FnRemoveNegateTestNegatingTwiceRestoresOperator", spec := "fnRemoveNegateTestNegatingTwiceRestoresOperator", apart := false }
def FnRemoveNegateTestNegatingTwiceRestoresOperatorSaid : Prop := fnRemoveNegateTestNegatingTwiceRestoresOperatorRow.holds Try.pinned (OpenSpec.ofChange fnRemoveNegateTestNegatingTwiceRestoresOperatorSpec)

/-- ITS FALSE NEIGHBOUR: 'it returns false'. Refute it at one input. -/
def fnRemoveNegateTestNegatingTwiceRestoresOperatorWrong : ChangeSpec := { name := "fnRemoveNegateTestNegatingTwiceRestoresOperator", fn := fun _ => fun
  | [d1, d2, d3] => { results := [.lit (.bool false)], args := [d1, d2, d3] }
  | _ => none }
def FnRemoveNegateTestNegatingTwiceRestoresOperatorWrongFalsely : Prop := fnRemoveNegateTestNegatingTwiceRestoresOperatorRow.holds Try.pinned (OpenSpec.ofChange fnRemoveNegateTestNegatingTwiceRestoresOperatorWrong)

/-- 'n010_116.FnMarkIndexUnionAndIdempotent': WHATEVER THE INPUT: true; the input reads as it did. -/
def fnMarkIndexUnionAndIdempotentSpec : ChangeSpec := { name := "fnMarkIndexUnionAndIdempotent", fn := fun _ => fun
  | [d1, d2] => { results := [.lit (.bool true)], args := [d1, d2] }
  | _ => none }
def fnMarkIndexUnionAndIdempotentRow : OpenClaim := { program := "ytnjdffnbkjjmeaa", sum := "ae6de53c3d0080d803bf8bbaea8069b0ec4c3d7acd1538773dbf9f271f3422da", func := "mvdan.cc/sh/v3/n010_116.FnMarkIndexUnionAndIdempotent", spec := "fnMarkIndexUnionAndIdempotent", recurses := true, apart := false }
def FnMarkIndexUnionAndIdempotentSaid : Prop := fnMarkIndexUnionAndIdempotentRow.holds Try.pinned (OpenSpec.ofChange fnMarkIndexUnionAndIdempotentSpec)

/-- ITS FALSE NEIGHBOUR: 'it returns false'. Refute it at one input. -/
def fnMarkIndexUnionAndIdempotentWrong : ChangeSpec := { name := "fnMarkIndexUnionAndIdempotent", fn := fun _ => fun
  | [d1, d2] => { results := [.lit (.bool false)], args := [d1, d2] }
  | _ => none }
def FnMarkIndexUnionAndIdempotentWrongFalsely : Prop := fnMarkIndexUnionAndIdempotentRow.holds Try.pinned (OpenSpec.ofChange fnMarkIndexUnionAndIdempotentWrong)

/-- 'n010_153.FnUnquoteParamsCaseTable': WHATEVER THE INPUT: true; the input reads as it did. -/
def fnUnquoteParamsCaseTableSpec : ChangeSpec := { name := "fnUnquoteParamsCaseTable", fn := fun _ => fun
  | [d1, d2, d3, d4, d5] => { results := [.lit (.bool true)], args := [d1, d2, d3, d4, d5] }
  | _ => none }
def fnUnquoteParamsCaseTableRow : OpenClaim := { program := "ytnjdffnbkjjmeaa", sum := "ae6de53c3d0080d803bf8bbaea8069b0ec4c3d7acd1538773dbf9f271f3422da", func := "mvdan.cc/sh/v3/n010_153.FnUnquoteParamsCaseTable", spec := "fnUnquoteParamsCaseTable", apart := false }
def FnUnquoteParamsCaseTableSaid : Prop := fnUnquoteParamsCaseTableRow.holds Try.pinned (OpenSpec.ofChange fnUnquoteParamsCaseTableSpec)

/-- ITS FALSE NEIGHBOUR: 'it returns false'. Refute it at one input. -/
def fnUnquoteParamsCaseTableWrong : ChangeSpec := { name := "fnUnquoteParamsCaseTable", fn := fun _ => fun
  | [d1, d2, d3, d4, d5] => { results := [.lit (.bool false)], args := [d1, d2, d3, d4, d5] }
  | _ => none }
def FnUnquoteParamsCaseTableWrongFalsely : Prop := fnUnquoteParamsCaseTableRow.holds Try.pinned (OpenSpec.ofChange fnUnquoteParamsCaseTableWrong)

/-- 'n010_144.FnUnquotedWordBytesConcat': WHATEVER THE INPUT: true; the input reads as it did. -/
def fnUnquotedWordBytesConcatSpec : ChangeSpec := { name := "fnUnquotedWordBytesConcat", fn := fun _ => fun
  | [d1, d2, d3, d4] => { results := [.lit (.bool true)], args := [d1, d2, d3, d4] }
  | _ => none }
def fnUnquotedWordBytesConcatRow : OpenClaim := { program := "ytnjdffnbkjjmeaa", sum := "ae6de53c3d0080d803bf8bbaea8069b0ec4c3d7acd1538773dbf9f271f3422da", func := "mvdan.cc/sh/v3/n010_144.FnUnquotedWordBytesConcat", spec := "fnUnquotedWordBytesConcat", unfollowed := true, recurses := true, apart := false }
def FnUnquotedWordBytesConcatSaid : Prop := fnUnquotedWordBytesConcatRow.holds Try.pinned (OpenSpec.ofChange fnUnquotedWordBytesConcatSpec)

/-- ITS FALSE NEIGHBOUR: 'it returns false'. Refute it at one input. -/
def fnUnquotedWordBytesConcatWrong : ChangeSpec := { name := "fnUnquotedWordBytesConcat", fn := fun _ => fun
  | [d1, d2, d3, d4] => { results := [.lit (.bool false)], args := [d1, d2, d3, d4] }
  | _ => none }
def FnUnquotedWordBytesConcatWrongFalsely : Prop := fnUnquotedWordBytesConcatRow.holds Try.pinned (OpenSpec.ofChange fnUnquotedWordBytesConcatWrong)

/-- 'n010_153.FnInlineSimpleParamsCaseTable': WHATEVER THE INPUT: true; the input reads as it did. -/
def fnInlineSimpleParamsCaseTableSpec : ChangeSpec := { name := "fnInlineSimpleParamsCaseTable", fn := fun _ => fun
  | [d1, d2, d3, d4] => { results := [.lit (.bool true)], args := [d1, d2, d3, d4] }
  | _ => none }
def fnInlineSimpleParamsCaseTableRow : OpenClaim := { program := "ytnjdffnbkjjmeaa", sum := "ae6de53c3d0080d803bf8bbaea8069b0ec4c3d7acd1538773dbf9f271f3422da", func := "mvdan.cc/sh/v3/n010_153.FnInlineSimpleParamsCaseTable", spec := "fnInlineSimpleParamsCaseTable", apart := false }
def FnInlineSimpleParamsCaseTableSaid : Prop := fnInlineSimpleParamsCaseTableRow.holds Try.pinned (OpenSpec.ofChange fnInlineSimpleParamsCaseTableSpec)

/-- ITS FALSE NEIGHBOUR: 'it returns false'. Refute it at one input. -/
def fnInlineSimpleParamsCaseTableWrong : ChangeSpec := { name := "fnInlineSimpleParamsCaseTable", fn := fun _ => fun
  | [d1, d2, d3, d4] => { results := [.lit (.bool false)], args := [d1, d2, d3, d4] }
  | _ => none }
def FnInlineSimpleParamsCaseTableWrongFalsely : Prop := fnInlineSimpleParamsCaseTableRow.holds Try.pinned (OpenSpec.ofChange fnInlineSimpleParamsCaseTableWrong)

/- THE SECOND FORM. 'bulk': how many values and letters a reading holds, each counted each time it is reached (what is shared counts as often as it is met; a slice's spare places count too). A statement '..UptoSaid' is the law's where the arguments, and the package variables that the reading takes, are together of bulk at most 1048576: NARROWER than '..Said'. Prove '..Said' where nothing that the law and all that it calls make is longer than what came in: it says more and counts as full. Else prove '..UptoSaid'. A law counts once. -/
mutual
def uptoBulk {H : Type} : DataW H → Nat
  | .lit (.string bytes) => bytes.length + 1
  | .lit _ => 1
  | .nil => 1
  | .ptr d => uptoBulk d + 1
  | .slice elems spare => uptoBulkAll elems + uptoBulkAll spare + 1
  | .agg parts => uptoBulkAll parts + 1
  | .iface _ d => uptoBulk d + 1
  | .map entries => uptoBulkEntries entries + 1
  | .held _ => 1
def uptoBulkAll {H : Type} : List (DataW H) → Nat
  | [] => 0
  | d :: r => uptoBulk d + uptoBulkAll r
def uptoBulkEntries {H : Type} : List (Lit × DataW H) → Nat
  | [] => 0
  | x :: r => uptoBulkEntry x + uptoBulkEntries r
def uptoBulkEntry {H : Type} : Lit × DataW H → Nat
  | (.string bytes, d) => bytes.length + uptoBulk d + 1
  | (_, d) => uptoBulk d + 1
 end
def uptoSmall : (H : Type) → List (DataW H) → Bool := fun _ ds => decide (uptoBulkAll ds ≤ 1048576)
def OpenSpec.upto (s : _root_.Go.ChangeSpec) : _root_.Go.OpenSpec := { _root_.Go.OpenSpec.ofChange s with cond := some uptoSmall }

/-- 'n010_153.FnInlineSubshellExact', WHERE WHAT IT READS IS OF BULK AT MOST 1048576: true; the input reads as it did. -/
def fnInlineSubshellExactUptoRow : OpenClaim := { program := "ytnjdffnbkjjmeaa", sum := "ae6de53c3d0080d803bf8bbaea8069b0ec4c3d7acd1538773dbf9f271f3422da", func := "mvdan.cc/sh/v3/n010_153.FnInlineSubshellExact", spec := "fnInlineSubshellExact", apart := false, narrowed := true }
def FnInlineSubshellExactUptoSaid : Prop := fnInlineSubshellExactUptoRow.holds Try.pinned (OpenSpec.upto fnInlineSubshellExactSpec)

/-- 'n010_149.FnRemoveParensTestIsIdempotent', WHERE WHAT IT READS IS OF BULK AT MOST 1048576: true; the input reads as it did. -/
def fnRemoveParensTestIsIdempotentUptoRow : OpenClaim := { program := "ytnjdffnbkjjmeaa", sum := "ae6de53c3d0080d803bf8bbaea8069b0ec4c3d7acd1538773dbf9f271f3422da", func := "mvdan.cc/sh/v3/n010_149.FnRemoveParensTestIsIdempotent", spec := "fnRemoveParensTestIsIdempotent", apart := false, narrowed := true }
def FnRemoveParensTestIsIdempotentUptoSaid : Prop := fnRemoveParensTestIsIdempotentUptoRow.holds Try.pinned (OpenSpec.upto fnRemoveParensTestIsIdempotentSpec)

/-- 'n010_144.FnUnquotedWordPartEscapeRoundTrip', WHERE WHAT IT READS IS OF BULK AT MOST 1048576: true; the input reads as it did. -/
def fnUnquotedWordPartEscapeRoundTripUptoRow : OpenClaim := { program := "ytnjdffnbkjjmeaa", sum := "ae6de53c3d0080d803bf8bbaea8069b0ec4c3d7acd1538773dbf9f271f3422da", func := "mvdan.cc/sh/v3/n010_144.FnUnquotedWordPartEscapeRoundTrip", spec := "fnUnquotedWordPartEscapeRoundTrip", unfollowed := true, recurses := true, apart := false, narrowed := true }
def FnUnquotedWordPartEscapeRoundTripUptoSaid : Prop := fnUnquotedWordPartEscapeRoundTripUptoRow.holds Try.pinned (OpenSpec.upto fnUnquotedWordPartEscapeRoundTripSpec)

/-- 'n010_144.FnPostNestedRestoresOuter', WHERE WHAT IT READS IS OF BULK AT MOST 1048576: true; the input reads as it did. -/
def fnPostNestedRestoresOuterUptoRow : OpenClaim := { program := "ytnjdffnbkjjmeaa", sum := "ae6de53c3d0080d803bf8bbaea8069b0ec4c3d7acd1538773dbf9f271f3422da", func := "mvdan.cc/sh/v3/n010_144.FnPostNestedRestoresOuter", spec := "fnPostNestedRestoresOuter", unfollowed := true, recurses := true, apart := false, narrowed := true }
def FnPostNestedRestoresOuterUptoSaid : Prop := fnPostNestedRestoresOuterUptoRow.holds Try.pinned (OpenSpec.upto fnPostNestedRestoresOuterSpec)

/-- 'n010_153.FnRemoveParensArithmStripsExactlyOuterParens', WHERE WHAT IT READS IS OF BULK AT MOST 1048576: true; the input reads as it did. -/
def fnRemoveParensArithmStripsExactlyOuterParensUptoRow : OpenClaim := { program := "ytnjdffnbkjjmeaa", sum := "ae6de53c3d0080d803bf8bbaea8069b0ec4c3d7acd1538773dbf9f271f3422da", func := "mvdan.cc/sh/v3/n010_153.FnRemoveParensArithmStripsExactlyOuterParens", spec := "fnRemoveParensArithmStripsExactlyOuterParens", apart := false, narrowed := true }
def FnRemoveParensArithmStripsExactlyOuterParensUptoSaid : Prop := fnRemoveParensArithmStripsExactlyOuterParensUptoRow.holds Try.pinned (OpenSpec.upto fnRemoveParensArithmStripsExactlyOuterParensSpec)

/-- 'n010_149.FnRemoveNegateTestNegatingTwiceRestoresOperator', WHERE WHAT IT READS IS OF BULK AT MOST 1048576: true; the input reads as it did. -/
def fnRemoveNegateTestNegatingTwiceRestoresOperatorUptoRow : OpenClaim := { program := "ytnjdffnbkjjmeaa", sum := "ae6de53c3d0080d803bf8bbaea8069b0ec4c3d7acd1538773dbf9f271f3422da", func := "mvdan.cc/sh/v3/n010_149.FnRemoveNegateTestNegatingTwiceRestoresOperator", spec := "fnRemoveNegateTestNegatingTwiceRestoresOperator", apart := false, narrowed := true }
def FnRemoveNegateTestNegatingTwiceRestoresOperatorUptoSaid : Prop := fnRemoveNegateTestNegatingTwiceRestoresOperatorUptoRow.holds Try.pinned (OpenSpec.upto fnRemoveNegateTestNegatingTwiceRestoresOperatorSpec)

/-- 'n010_116.FnMarkIndexUnionAndIdempotent', WHERE WHAT IT READS IS OF BULK AT MOST 1048576: true; the input reads as it did. -/
def fnMarkIndexUnionAndIdempotentUptoRow : OpenClaim := { program := "ytnjdffnbkjjmeaa", sum := "ae6de53c3d0080d803bf8bbaea8069b0ec4c3d7acd1538773dbf9f271f3422da", func := "mvdan.cc/sh/v3/n010_116.FnMarkIndexUnionAndIdempotent", spec := "fnMarkIndexUnionAndIdempotent", recurses := true, apart := false, narrowed := true }
def FnMarkIndexUnionAndIdempotentUptoSaid : Prop := fnMarkIndexUnionAndIdempotentUptoRow.holds Try.pinned (OpenSpec.upto fnMarkIndexUnionAndIdempotentSpec)

/-- 'n010_153.FnUnquoteParamsCaseTable', WHERE WHAT IT READS IS OF BULK AT MOST 1048576: true; the input reads as it did. -/
def fnUnquoteParamsCaseTableUptoRow : OpenClaim := { program := "ytnjdffnbkjjmeaa", sum := "ae6de53c3d0080d803bf8bbaea8069b0ec4c3d7acd1538773dbf9f271f3422da", func := "mvdan.cc/sh/v3/n010_153.FnUnquoteParamsCaseTable", spec := "fnUnquoteParamsCaseTable", apart := false, narrowed := true }
def FnUnquoteParamsCaseTableUptoSaid : Prop := fnUnquoteParamsCaseTableUptoRow.holds Try.pinned (OpenSpec.upto fnUnquoteParamsCaseTableSpec)

/-- 'n010_144.FnUnquotedWordBytesConcat', WHERE WHAT IT READS IS OF BULK AT MOST 1048576: true; the input reads as it did. -/
def fnUnquotedWordBytesConcatUptoRow : OpenClaim := { program := "ytnjdffnbkjjmeaa", sum := "ae6de53c3d0080d803bf8bbaea8069b0ec4c3d7acd1538773dbf9f271f3422da", func := "mvdan.cc/sh/v3/n010_144.FnUnquotedWordBytesConcat", spec := "fnUnquotedWordBytesConcat", unfollowed := true, recurses := true, apart := false, narrowed := true }
def FnUnquotedWordBytesConcatUptoSaid : Prop := fnUnquotedWordBytesConcatUptoRow.holds Try.pinned (OpenSpec.upto fnUnquotedWordBytesConcatSpec)

/-- 'n010_153.FnInlineSimpleParamsCaseTable', WHERE WHAT IT READS IS OF BULK AT MOST 1048576: true; the input reads as it did. -/
def fnInlineSimpleParamsCaseTableUptoRow : OpenClaim := { program := "ytnjdffnbkjjmeaa", sum := "ae6de53c3d0080d803bf8bbaea8069b0ec4c3d7acd1538773dbf9f271f3422da", func := "mvdan.cc/sh/v3/n010_153.FnInlineSimpleParamsCaseTable", spec := "fnInlineSimpleParamsCaseTable", apart := false, narrowed := true }
def FnInlineSimpleParamsCaseTableUptoSaid : Prop := fnInlineSimpleParamsCaseTableUptoRow.holds Try.pinned (OpenSpec.upto fnInlineSimpleParamsCaseTableSpec)

end Rows
end Go.Proofs.Ytnjdffnbkjjmeaa
