/-
  NARROWER THAN 'FOR EVERY INPUT', by the rows' own cells (each row's printed sentence says how): FnPosStringExact: laid · FnPosIsValidAgreesWithString: laid · FnBinAritOperatorStringInjective: laid · FnBinTestOperatorStringInjective: laid · FnUnAritOperatorStringInjective: laid · FnUnTestOperatorStringInjective: laid · FnPosRecoveredSentinel: laid.
  DERIVED. THE GIVEN ROWS OF THIS SEAT. 7 by the template 'for every input the law returns true; each argument reads behind the call as it read before'; 0 by the template 'total and deterministic' (their statements: YtleldhnilecklaaDoorTotals.lean).
  GIVEN WITH THE SEED: the statements are not yours to turn. If you find one false, say at which input.
  Laid BY PROGRAM, IN A SANDBOX (cutbox-rows.mjs): the forced cells as the released guide's own fill.sh prints them over the translation 41205d0b96236ea9… (all of the seat's roots in one cut). By AI agents, Wed Nov 11 2026. No macro, syntax, notation, axiom, sorry.
-/
import Derived.Test.YtleldhnilecklaaDoorChecked
import GoSem.Claim
import GoSem.ClaimJoined
import GoSem.ClaimMapViews
import Derived.JoinedTies
import Derived.KernelRfl
namespace Go.Proofs.YtleldhnilecklaaDoor
/- THE CELL 'sum', in the pinned program and in every row, IS THE sha256 OF THE DUMP (.gsa) THAT YtleldhnilecklaaDoorProg.lean LOADS. Nothing in Lean hashes anything: it is a label: what it is worth is what the hold of that sum in a sandbox is worth. -/
noncomputable def Tryd.pinned : Pinned := { name := "ytleldhnilecklaadoor", sum := "41205d0b96236ea9dfeed212626bba7bb6f1bae4c8b9e63b65d4a86beeccfe61", checked := Tryd.checked }
namespace Rows
def none {H : Type} : Left H := { results := [], args := [] }

/- WHAT THE LISTED PACKAGE-LEVEL VARIABLES READ AS WHEN THE CALL BEGINS. Each datum BY PROGRAM (the guide's laid-datum.mjs) off the statement by which the dump's own 'gosem.cut.vars' lays the variable. In a bare row this is a premise. The card (YtleldhnilecklaaDoorCards.lean) ties it to the program's text. -/
def laid_math_bits_deBruijn32tab {H : Type} : DataW H := .agg [.lit (.int .u8 0), .lit (.int .u8 1), .lit (.int .u8 28), .lit (.int .u8 2), .lit (.int .u8 29), .lit (.int .u8 14), .lit (.int .u8 24), .lit (.int .u8 3), .lit (.int .u8 30), .lit (.int .u8 22), .lit (.int .u8 20), .lit (.int .u8 15), .lit (.int .u8 25), .lit (.int .u8 17), .lit (.int .u8 4), .lit (.int .u8 8), .lit (.int .u8 31), .lit (.int .u8 27), .lit (.int .u8 13), .lit (.int .u8 23), .lit (.int .u8 21), .lit (.int .u8 19), .lit (.int .u8 16), .lit (.int .u8 7), .lit (.int .u8 26), .lit (.int .u8 12), .lit (.int .u8 18), .lit (.int .u8 6), .lit (.int .u8 11), .lit (.int .u8 5), .lit (.int .u8 10), .lit (.int .u8 9)]
def laid_math_bits_deBruijn64tab {H : Type} : DataW H := .agg [.lit (.int .u8 0), .lit (.int .u8 1), .lit (.int .u8 56), .lit (.int .u8 2), .lit (.int .u8 57), .lit (.int .u8 49), .lit (.int .u8 28), .lit (.int .u8 3), .lit (.int .u8 61), .lit (.int .u8 58), .lit (.int .u8 42), .lit (.int .u8 50), .lit (.int .u8 38), .lit (.int .u8 29), .lit (.int .u8 17), .lit (.int .u8 4), .lit (.int .u8 62), .lit (.int .u8 47), .lit (.int .u8 59), .lit (.int .u8 36), .lit (.int .u8 45), .lit (.int .u8 43), .lit (.int .u8 51), .lit (.int .u8 22), .lit (.int .u8 53), .lit (.int .u8 39), .lit (.int .u8 33), .lit (.int .u8 30), .lit (.int .u8 24), .lit (.int .u8 18), .lit (.int .u8 12), .lit (.int .u8 5), .lit (.int .u8 63), .lit (.int .u8 55), .lit (.int .u8 48), .lit (.int .u8 27), .lit (.int .u8 60), .lit (.int .u8 41), .lit (.int .u8 37), .lit (.int .u8 16), .lit (.int .u8 46), .lit (.int .u8 35), .lit (.int .u8 44), .lit (.int .u8 21), .lit (.int .u8 52), .lit (.int .u8 32), .lit (.int .u8 23), .lit (.int .u8 11), .lit (.int .u8 54), .lit (.int .u8 26), .lit (.int .u8 40), .lit (.int .u8 15), .lit (.int .u8 34), .lit (.int .u8 20), .lit (.int .u8 31), .lit (.int .u8 10), .lit (.int .u8 25), .lit (.int .u8 14), .lit (.int .u8 19), .lit (.int .u8 9), .lit (.int .u8 13), .lit (.int .u8 8), .lit (.int .u8 7), .lit (.int .u8 6)]
def laid_internal_strconv_uint64pow10 {H : Type} : DataW H := .agg [.lit (.int .u64 1), .lit (.int .u64 10), .lit (.int .u64 100), .lit (.int .u64 1000), .lit (.int .u64 10000), .lit (.int .u64 100000), .lit (.int .u64 1000000), .lit (.int .u64 10000000), .lit (.int .u64 100000000), .lit (.int .u64 1000000000), .lit (.int .u64 10000000000), .lit (.int .u64 100000000000), .lit (.int .u64 1000000000000), .lit (.int .u64 10000000000000), .lit (.int .u64 100000000000000), .lit (.int .u64 1000000000000000), .lit (.int .u64 10000000000000000), .lit (.int .u64 100000000000000000), .lit (.int .u64 1000000000000000000), .lit (.int .u64 10000000000000000000)]
def laid_mvdan_cc_sh_v3_syntax_token_index {H : Type} : DataW H := .agg [.lit (.int .u16 0), .lit (.int .u16 10), .lit (.int .u16 13), .lit (.int .u16 17), .lit (.int .u16 20), .lit (.int .u16 27), .lit (.int .u16 35), .lit (.int .u16 52), .lit (.int .u16 53), .lit (.int .u16 54), .lit (.int .u16 55), .lit (.int .u16 56), .lit (.int .u16 58), .lit (.int .u16 60), .lit (.int .u16 61), .lit (.int .u16 63), .lit (.int .u16 65), .lit (.int .u16 67), .lit (.int .u16 68), .lit (.int .u16 70), .lit (.int .u16 72), .lit (.int .u16 74), .lit (.int .u16 76), .lit (.int .u16 78), .lit (.int .u16 81), .lit (.int .u16 82), .lit (.int .u16 83), .lit (.int .u16 85), .lit (.int .u16 86), .lit (.int .u16 88), .lit (.int .u16 89), .lit (.int .u16 90), .lit (.int .u16 92), .lit (.int .u16 93), .lit (.int .u16 95), .lit (.int .u16 96), .lit (.int .u16 98), .lit (.int .u16 100), .lit (.int .u16 103), .lit (.int .u16 105), .lit (.int .u16 106), .lit (.int .u16 107), .lit (.int .u16 109), .lit (.int .u16 111), .lit (.int .u16 112), .lit (.int .u16 114), .lit (.int .u16 116), .lit (.int .u16 118), .lit (.int .u16 120), .lit (.int .u16 122), .lit (.int .u16 124), .lit (.int .u16 126), .lit (.int .u16 128), .lit (.int .u16 130), .lit (.int .u16 132), .lit (.int .u16 134), .lit (.int .u16 136), .lit (.int .u16 138), .lit (.int .u16 141), .lit (.int .u16 144), .lit (.int .u16 147), .lit (.int .u16 150), .lit (.int .u16 153), .lit (.int .u16 156), .lit (.int .u16 157), .lit (.int .u16 159), .lit (.int .u16 160), .lit (.int .u16 162), .lit (.int .u16 164), .lit (.int .u16 166), .lit (.int .u16 168), .lit (.int .u16 171), .lit (.int .u16 173), .lit (.int .u16 176), .lit (.int .u16 179), .lit (.int .u16 181), .lit (.int .u16 184), .lit (.int .u16 187), .lit (.int .u16 191), .lit (.int .u16 193), .lit (.int .u16 195), .lit (.int .u16 197), .lit (.int .u16 198), .lit (.int .u16 200), .lit (.int .u16 201), .lit (.int .u16 203), .lit (.int .u16 204), .lit (.int .u16 206), .lit (.int .u16 207), .lit (.int .u16 209), .lit (.int .u16 210), .lit (.int .u16 212), .lit (.int .u16 213), .lit (.int .u16 215), .lit (.int .u16 217), .lit (.int .u16 219), .lit (.int .u16 221), .lit (.int .u16 222), .lit (.int .u16 224), .lit (.int .u16 225), .lit (.int .u16 227), .lit (.int .u16 228), .lit (.int .u16 229), .lit (.int .u16 231), .lit (.int .u16 232), .lit (.int .u16 233), .lit (.int .u16 235), .lit (.int .u16 237), .lit (.int .u16 239), .lit (.int .u16 241), .lit (.int .u16 243), .lit (.int .u16 245), .lit (.int .u16 247), .lit (.int .u16 249), .lit (.int .u16 251), .lit (.int .u16 253), .lit (.int .u16 255), .lit (.int .u16 257), .lit (.int .u16 259), .lit (.int .u16 261), .lit (.int .u16 263), .lit (.int .u16 265), .lit (.int .u16 267), .lit (.int .u16 269), .lit (.int .u16 271), .lit (.int .u16 273), .lit (.int .u16 275), .lit (.int .u16 277), .lit (.int .u16 279), .lit (.int .u16 281), .lit (.int .u16 283), .lit (.int .u16 286), .lit (.int .u16 289), .lit (.int .u16 292), .lit (.int .u16 295), .lit (.int .u16 298), .lit (.int .u16 301), .lit (.int .u16 304), .lit (.int .u16 307), .lit (.int .u16 310), .lit (.int .u16 312), .lit (.int .u16 314), .lit (.int .u16 316), .lit (.int .u16 318), .lit (.int .u16 320)]
def laid_mvdan_cc_sh_v3_syntax_recoveredPos {H : Type} : DataW H := .agg [.lit (.int .u32 4294967285), .lit (.int .u32 0)]

/-- 'n010_10.FnPosStringExact': WHATEVER THE INPUT: true; the input reads as it did. -/
def fnPosStringExactSpec : ChangeSpec := { name := "fnPosStringExact", fn := fun _ => fun
  | [d1, d2, d3] => { results := [.lit (.bool true)], args := [d1, d2, d3] }
  | _ => none }
def fnPosStringExactRow : OpenClaim := { program := "ytleldhnilecklaadoor", sum := "41205d0b96236ea9dfeed212626bba7bb6f1bae4c8b9e63b65d4a86beeccfe61", func := "mvdan.cc/sh/v3/n010_10.FnPosStringExact", spec := "fnPosStringExact", inPlace := ["internal/abi.NoEscape"], named := ["internal/strconv.uint64pow10", "math/bits.deBruijn32tab", "math/bits.deBruijn64tab"], apart := false, laid := [("math/bits.deBruijn32tab", laid_math_bits_deBruijn32tab), ("math/bits.deBruijn64tab", laid_math_bits_deBruijn64tab), ("internal/strconv.uint64pow10", laid_internal_strconv_uint64pow10)] }
def FnPosStringExactSaid : Prop := fnPosStringExactRow.holds Tryd.pinned (OpenSpec.ofChange fnPosStringExactSpec)

/-- ITS FALSE NEIGHBOUR: 'it returns false'. Refute it at one input. -/
def fnPosStringExactWrong : ChangeSpec := { name := "fnPosStringExact", fn := fun _ => fun
  | [d1, d2, d3] => { results := [.lit (.bool false)], args := [d1, d2, d3] }
  | _ => none }
def FnPosStringExactWrongFalsely : Prop := fnPosStringExactRow.holds Tryd.pinned (OpenSpec.ofChange fnPosStringExactWrong)

/-- 'n010_10.FnPosIsValidAgreesWithString': WHATEVER THE INPUT: true; the input reads as it did. -/
def fnPosIsValidAgreesWithStringSpec : ChangeSpec := { name := "fnPosIsValidAgreesWithString", fn := fun _ => fun
  | [d1, d2, d3] => { results := [.lit (.bool true)], args := [d1, d2, d3] }
  | _ => none }
def fnPosIsValidAgreesWithStringRow : OpenClaim := { program := "ytleldhnilecklaadoor", sum := "41205d0b96236ea9dfeed212626bba7bb6f1bae4c8b9e63b65d4a86beeccfe61", func := "mvdan.cc/sh/v3/n010_10.FnPosIsValidAgreesWithString", spec := "fnPosIsValidAgreesWithString", inPlace := ["internal/abi.NoEscape"], named := ["internal/strconv.uint64pow10", "math/bits.deBruijn32tab", "math/bits.deBruijn64tab"], apart := false, laid := [("math/bits.deBruijn32tab", laid_math_bits_deBruijn32tab), ("math/bits.deBruijn64tab", laid_math_bits_deBruijn64tab), ("internal/strconv.uint64pow10", laid_internal_strconv_uint64pow10)] }
def FnPosIsValidAgreesWithStringSaid : Prop := fnPosIsValidAgreesWithStringRow.holds Tryd.pinned (OpenSpec.ofChange fnPosIsValidAgreesWithStringSpec)

/-- ITS FALSE NEIGHBOUR: 'it returns false'. Refute it at one input. -/
def fnPosIsValidAgreesWithStringWrong : ChangeSpec := { name := "fnPosIsValidAgreesWithString", fn := fun _ => fun
  | [d1, d2, d3] => { results := [.lit (.bool false)], args := [d1, d2, d3] }
  | _ => none }
def FnPosIsValidAgreesWithStringWrongFalsely : Prop := fnPosIsValidAgreesWithStringRow.holds Tryd.pinned (OpenSpec.ofChange fnPosIsValidAgreesWithStringWrong)

/-- 'n010_125.FnBinAritOperatorStringInjective': WHATEVER THE INPUT: true; the input reads as it did. -/
def fnBinAritOperatorStringInjectiveSpec : ChangeSpec := { name := "fnBinAritOperatorStringInjective", vars := ["mvdan.cc/sh/v3/syntax._token_index"], fn := fun _ => fun
  | [d1, d2, g1] => { results := [.lit (.bool true)], args := [d1, d2], vars := [g1] }
  | _ => none }
def fnBinAritOperatorStringInjectiveRow : OpenClaim := { program := "ytleldhnilecklaadoor", sum := "41205d0b96236ea9dfeed212626bba7bb6f1bae4c8b9e63b65d4a86beeccfe61", func := "mvdan.cc/sh/v3/n010_125.FnBinAritOperatorStringInjective", spec := "fnBinAritOperatorStringInjective", named := ["mvdan.cc/sh/v3/syntax._token_index", "internal/strconv.uint64pow10", "math/bits.deBruijn32tab", "math/bits.deBruijn64tab"], apart := false, laid := [("math/bits.deBruijn32tab", laid_math_bits_deBruijn32tab), ("math/bits.deBruijn64tab", laid_math_bits_deBruijn64tab), ("internal/strconv.uint64pow10", laid_internal_strconv_uint64pow10), ("mvdan.cc/sh/v3/syntax._token_index", laid_mvdan_cc_sh_v3_syntax_token_index)] }
def FnBinAritOperatorStringInjectiveSaid : Prop := fnBinAritOperatorStringInjectiveRow.holds Tryd.pinned (OpenSpec.ofChange fnBinAritOperatorStringInjectiveSpec)

/-- ITS FALSE NEIGHBOUR: 'it returns false'. Refute it at one input. -/
def fnBinAritOperatorStringInjectiveWrong : ChangeSpec := { name := "fnBinAritOperatorStringInjective", vars := ["mvdan.cc/sh/v3/syntax._token_index"], fn := fun _ => fun
  | [d1, d2, g1] => { results := [.lit (.bool false)], args := [d1, d2], vars := [g1] }
  | _ => none }
def FnBinAritOperatorStringInjectiveWrongFalsely : Prop := fnBinAritOperatorStringInjectiveRow.holds Tryd.pinned (OpenSpec.ofChange fnBinAritOperatorStringInjectiveWrong)

/-- 'n010_125.FnBinTestOperatorStringInjective': WHATEVER THE INPUT: true; the input reads as it did. -/
def fnBinTestOperatorStringInjectiveSpec : ChangeSpec := { name := "fnBinTestOperatorStringInjective", vars := ["mvdan.cc/sh/v3/syntax._token_index"], fn := fun _ => fun
  | [d1, d2, g1] => { results := [.lit (.bool true)], args := [d1, d2], vars := [g1] }
  | _ => none }
def fnBinTestOperatorStringInjectiveRow : OpenClaim := { program := "ytleldhnilecklaadoor", sum := "41205d0b96236ea9dfeed212626bba7bb6f1bae4c8b9e63b65d4a86beeccfe61", func := "mvdan.cc/sh/v3/n010_125.FnBinTestOperatorStringInjective", spec := "fnBinTestOperatorStringInjective", named := ["mvdan.cc/sh/v3/syntax._token_index", "internal/strconv.uint64pow10", "math/bits.deBruijn32tab", "math/bits.deBruijn64tab"], apart := false, laid := [("math/bits.deBruijn32tab", laid_math_bits_deBruijn32tab), ("math/bits.deBruijn64tab", laid_math_bits_deBruijn64tab), ("internal/strconv.uint64pow10", laid_internal_strconv_uint64pow10), ("mvdan.cc/sh/v3/syntax._token_index", laid_mvdan_cc_sh_v3_syntax_token_index)] }
def FnBinTestOperatorStringInjectiveSaid : Prop := fnBinTestOperatorStringInjectiveRow.holds Tryd.pinned (OpenSpec.ofChange fnBinTestOperatorStringInjectiveSpec)

/-- ITS FALSE NEIGHBOUR: 'it returns false'. Refute it at one input. -/
def fnBinTestOperatorStringInjectiveWrong : ChangeSpec := { name := "fnBinTestOperatorStringInjective", vars := ["mvdan.cc/sh/v3/syntax._token_index"], fn := fun _ => fun
  | [d1, d2, g1] => { results := [.lit (.bool false)], args := [d1, d2], vars := [g1] }
  | _ => none }
def FnBinTestOperatorStringInjectiveWrongFalsely : Prop := fnBinTestOperatorStringInjectiveRow.holds Tryd.pinned (OpenSpec.ofChange fnBinTestOperatorStringInjectiveWrong)

/-- 'n010_125.FnUnAritOperatorStringInjective': WHATEVER THE INPUT: true; the input reads as it did. -/
def fnUnAritOperatorStringInjectiveSpec : ChangeSpec := { name := "fnUnAritOperatorStringInjective", vars := ["mvdan.cc/sh/v3/syntax._token_index"], fn := fun _ => fun
  | [d1, d2, g1] => { results := [.lit (.bool true)], args := [d1, d2], vars := [g1] }
  | _ => none }
def fnUnAritOperatorStringInjectiveRow : OpenClaim := { program := "ytleldhnilecklaadoor", sum := "41205d0b96236ea9dfeed212626bba7bb6f1bae4c8b9e63b65d4a86beeccfe61", func := "mvdan.cc/sh/v3/n010_125.FnUnAritOperatorStringInjective", spec := "fnUnAritOperatorStringInjective", named := ["mvdan.cc/sh/v3/syntax._token_index", "internal/strconv.uint64pow10", "math/bits.deBruijn32tab", "math/bits.deBruijn64tab"], apart := false, laid := [("math/bits.deBruijn32tab", laid_math_bits_deBruijn32tab), ("math/bits.deBruijn64tab", laid_math_bits_deBruijn64tab), ("internal/strconv.uint64pow10", laid_internal_strconv_uint64pow10), ("mvdan.cc/sh/v3/syntax._token_index", laid_mvdan_cc_sh_v3_syntax_token_index)] }
def FnUnAritOperatorStringInjectiveSaid : Prop := fnUnAritOperatorStringInjectiveRow.holds Tryd.pinned (OpenSpec.ofChange fnUnAritOperatorStringInjectiveSpec)

/-- ITS FALSE NEIGHBOUR: 'it returns false'. Refute it at one input. -/
def fnUnAritOperatorStringInjectiveWrong : ChangeSpec := { name := "fnUnAritOperatorStringInjective", vars := ["mvdan.cc/sh/v3/syntax._token_index"], fn := fun _ => fun
  | [d1, d2, g1] => { results := [.lit (.bool false)], args := [d1, d2], vars := [g1] }
  | _ => none }
def FnUnAritOperatorStringInjectiveWrongFalsely : Prop := fnUnAritOperatorStringInjectiveRow.holds Tryd.pinned (OpenSpec.ofChange fnUnAritOperatorStringInjectiveWrong)

/-- 'n010_125.FnUnTestOperatorStringInjective': WHATEVER THE INPUT: true; the input reads as it did. -/
def fnUnTestOperatorStringInjectiveSpec : ChangeSpec := { name := "fnUnTestOperatorStringInjective", vars := ["mvdan.cc/sh/v3/syntax._token_index"], fn := fun _ => fun
  | [d1, d2, g1] => { results := [.lit (.bool true)], args := [d1, d2], vars := [g1] }
  | _ => none }
def fnUnTestOperatorStringInjectiveRow : OpenClaim := { program := "ytleldhnilecklaadoor", sum := "41205d0b96236ea9dfeed212626bba7bb6f1bae4c8b9e63b65d4a86beeccfe61", func := "mvdan.cc/sh/v3/n010_125.FnUnTestOperatorStringInjective", spec := "fnUnTestOperatorStringInjective", named := ["mvdan.cc/sh/v3/syntax._token_index", "internal/strconv.uint64pow10", "math/bits.deBruijn32tab", "math/bits.deBruijn64tab"], apart := false, laid := [("math/bits.deBruijn32tab", laid_math_bits_deBruijn32tab), ("math/bits.deBruijn64tab", laid_math_bits_deBruijn64tab), ("internal/strconv.uint64pow10", laid_internal_strconv_uint64pow10), ("mvdan.cc/sh/v3/syntax._token_index", laid_mvdan_cc_sh_v3_syntax_token_index)] }
def FnUnTestOperatorStringInjectiveSaid : Prop := fnUnTestOperatorStringInjectiveRow.holds Tryd.pinned (OpenSpec.ofChange fnUnTestOperatorStringInjectiveSpec)

/-- ITS FALSE NEIGHBOUR: 'it returns false'. Refute it at one input. -/
def fnUnTestOperatorStringInjectiveWrong : ChangeSpec := { name := "fnUnTestOperatorStringInjective", vars := ["mvdan.cc/sh/v3/syntax._token_index"], fn := fun _ => fun
  | [d1, d2, g1] => { results := [.lit (.bool false)], args := [d1, d2], vars := [g1] }
  | _ => none }
def FnUnTestOperatorStringInjectiveWrongFalsely : Prop := fnUnTestOperatorStringInjectiveRow.holds Tryd.pinned (OpenSpec.ofChange fnUnTestOperatorStringInjectiveWrong)

/-- 'n010_10.FnPosRecoveredSentinel': WHATEVER THE INPUT: true; the input reads as it did. -/
def fnPosRecoveredSentinelSpec : ChangeSpec := { name := "fnPosRecoveredSentinel", vars := ["mvdan.cc/sh/v3/syntax.recoveredPos"], fn := fun _ => fun
  | [d1, d2, d3, g1] => { results := [.lit (.bool true)], args := [d1, d2, d3], vars := [g1] }
  | _ => none }
def fnPosRecoveredSentinelRow : OpenClaim := { program := "ytleldhnilecklaadoor", sum := "41205d0b96236ea9dfeed212626bba7bb6f1bae4c8b9e63b65d4a86beeccfe61", func := "mvdan.cc/sh/v3/n010_10.FnPosRecoveredSentinel", spec := "fnPosRecoveredSentinel", inPlace := ["internal/abi.NoEscape"], named := ["mvdan.cc/sh/v3/syntax.recoveredPos", "internal/strconv.uint64pow10", "math/bits.deBruijn32tab", "math/bits.deBruijn64tab"], apart := false, laid := [("math/bits.deBruijn32tab", laid_math_bits_deBruijn32tab), ("math/bits.deBruijn64tab", laid_math_bits_deBruijn64tab), ("internal/strconv.uint64pow10", laid_internal_strconv_uint64pow10), ("mvdan.cc/sh/v3/syntax.recoveredPos", laid_mvdan_cc_sh_v3_syntax_recoveredPos)] }
def FnPosRecoveredSentinelSaid : Prop := fnPosRecoveredSentinelRow.holds Tryd.pinned (OpenSpec.ofChange fnPosRecoveredSentinelSpec)

/-- ITS FALSE NEIGHBOUR: 'it returns false'. Refute it at one input. -/
def fnPosRecoveredSentinelWrong : ChangeSpec := { name := "fnPosRecoveredSentinel", vars := ["mvdan.cc/sh/v3/syntax.recoveredPos"], fn := fun _ => fun
  | [d1, d2, d3, g1] => { results := [.lit (.bool false)], args := [d1, d2, d3], vars := [g1] }
  | _ => none }
def FnPosRecoveredSentinelWrongFalsely : Prop := fnPosRecoveredSentinelRow.holds Tryd.pinned (OpenSpec.ofChange fnPosRecoveredSentinelWrong)

/- THE SECOND FORM. 'bulk': how many values and letters a reading holds, each counted each time it is reached (what is shared counts as often as it is met; a slice's spare places count too). A statement '..UptoSaid' is the law's where the arguments, and the package variables that the reading takes, are together of bulk at most 1048576: NARROWER than '..Said'. Prove '..Said' where nothing that the law and all that it calls make is longer than what came in: it says more and counts as full. Else prove '..UptoSaid'. A law counts once. -/
mutual
def uptoBulk {H : Type} : DataW H → Nat
  | .lit (.string bytes) => bytes.length + 1
  | .lit _ => 1
  | .nil => 1
  | .ptr d => uptoBulk d + 1
  | .slice elems spare => uptoBulkAll elems + uptoBulkAll spare + 1
  | .agg parts => uptoBulkAll parts + 1
  | .iface _ d => uptoBulk d + 1
  | .map entries => uptoBulkEntries entries + 1
  | .held _ => 1
def uptoBulkAll {H : Type} : List (DataW H) → Nat
  | [] => 0
  | d :: r => uptoBulk d + uptoBulkAll r
def uptoBulkEntries {H : Type} : List (Lit × DataW H) → Nat
  | [] => 0
  | x :: r => uptoBulkEntry x + uptoBulkEntries r
def uptoBulkEntry {H : Type} : Lit × DataW H → Nat
  | (.string bytes, d) => bytes.length + uptoBulk d + 1
  | (_, d) => uptoBulk d + 1
 end
def uptoSmall : (H : Type) → List (DataW H) → Bool := fun _ ds => decide (uptoBulkAll ds ≤ 1048576)
def OpenSpec.upto (s : _root_.Go.ChangeSpec) : _root_.Go.OpenSpec := { _root_.Go.OpenSpec.ofChange s with cond := some uptoSmall }

/-- 'n010_10.FnPosStringExact', WHERE WHAT IT READS IS OF BULK AT MOST 1048576: true; the input reads as it did. -/
def fnPosStringExactUptoRow : OpenClaim := { program := "ytleldhnilecklaadoor", sum := "41205d0b96236ea9dfeed212626bba7bb6f1bae4c8b9e63b65d4a86beeccfe61", func := "mvdan.cc/sh/v3/n010_10.FnPosStringExact", spec := "fnPosStringExact", inPlace := ["internal/abi.NoEscape"], named := ["internal/strconv.uint64pow10", "math/bits.deBruijn32tab", "math/bits.deBruijn64tab"], apart := false, laid := [("math/bits.deBruijn32tab", laid_math_bits_deBruijn32tab), ("math/bits.deBruijn64tab", laid_math_bits_deBruijn64tab), ("internal/strconv.uint64pow10", laid_internal_strconv_uint64pow10)], narrowed := true }
def FnPosStringExactUptoSaid : Prop := fnPosStringExactUptoRow.holds Tryd.pinned (OpenSpec.upto fnPosStringExactSpec)

/-- 'n010_10.FnPosIsValidAgreesWithString', WHERE WHAT IT READS IS OF BULK AT MOST 1048576: true; the input reads as it did. -/
def fnPosIsValidAgreesWithStringUptoRow : OpenClaim := { program := "ytleldhnilecklaadoor", sum := "41205d0b96236ea9dfeed212626bba7bb6f1bae4c8b9e63b65d4a86beeccfe61", func := "mvdan.cc/sh/v3/n010_10.FnPosIsValidAgreesWithString", spec := "fnPosIsValidAgreesWithString", inPlace := ["internal/abi.NoEscape"], named := ["internal/strconv.uint64pow10", "math/bits.deBruijn32tab", "math/bits.deBruijn64tab"], apart := false, laid := [("math/bits.deBruijn32tab", laid_math_bits_deBruijn32tab), ("math/bits.deBruijn64tab", laid_math_bits_deBruijn64tab), ("internal/strconv.uint64pow10", laid_internal_strconv_uint64pow10)], narrowed := true }
def FnPosIsValidAgreesWithStringUptoSaid : Prop := fnPosIsValidAgreesWithStringUptoRow.holds Tryd.pinned (OpenSpec.upto fnPosIsValidAgreesWithStringSpec)

/-- 'n010_125.FnBinAritOperatorStringInjective', WHERE WHAT IT READS IS OF BULK AT MOST 1048576: true; the input reads as it did. -/
def fnBinAritOperatorStringInjectiveUptoRow : OpenClaim := { program := "ytleldhnilecklaadoor", sum := "41205d0b96236ea9dfeed212626bba7bb6f1bae4c8b9e63b65d4a86beeccfe61", func := "mvdan.cc/sh/v3/n010_125.FnBinAritOperatorStringInjective", spec := "fnBinAritOperatorStringInjective", named := ["mvdan.cc/sh/v3/syntax._token_index", "internal/strconv.uint64pow10", "math/bits.deBruijn32tab", "math/bits.deBruijn64tab"], apart := false, laid := [("math/bits.deBruijn32tab", laid_math_bits_deBruijn32tab), ("math/bits.deBruijn64tab", laid_math_bits_deBruijn64tab), ("internal/strconv.uint64pow10", laid_internal_strconv_uint64pow10), ("mvdan.cc/sh/v3/syntax._token_index", laid_mvdan_cc_sh_v3_syntax_token_index)], narrowed := true }
def FnBinAritOperatorStringInjectiveUptoSaid : Prop := fnBinAritOperatorStringInjectiveUptoRow.holds Tryd.pinned (OpenSpec.upto fnBinAritOperatorStringInjectiveSpec)

/-- 'n010_125.FnBinTestOperatorStringInjective', WHERE WHAT IT READS IS OF BULK AT MOST 1048576: true; the input reads as it did. -/
def fnBinTestOperatorStringInjectiveUptoRow : OpenClaim := { program := "ytleldhnilecklaadoor", sum := "41205d0b96236ea9dfeed212626bba7bb6f1bae4c8b9e63b65d4a86beeccfe61", func := "mvdan.cc/sh/v3/n010_125.FnBinTestOperatorStringInjective", spec := "fnBinTestOperatorStringInjective", named := ["mvdan.cc/sh/v3/syntax._token_index", "internal/strconv.uint64pow10", "math/bits.deBruijn32tab", "math/bits.deBruijn64tab"], apart := false, laid := [("math/bits.deBruijn32tab", laid_math_bits_deBruijn32tab), ("math/bits.deBruijn64tab", laid_math_bits_deBruijn64tab), ("internal/strconv.uint64pow10", laid_internal_strconv_uint64pow10), ("mvdan.cc/sh/v3/syntax._token_index", laid_mvdan_cc_sh_v3_syntax_token_index)], narrowed := true }
def FnBinTestOperatorStringInjectiveUptoSaid : Prop := fnBinTestOperatorStringInjectiveUptoRow.holds Tryd.pinned (OpenSpec.upto fnBinTestOperatorStringInjectiveSpec)

/-- 'n010_125.FnUnAritOperatorStringInjective', WHERE WHAT IT READS IS OF BULK AT MOST 1048576: true; the input reads as it did. -/
def fnUnAritOperatorStringInjectiveUptoRow : OpenClaim := { program := "ytleldhnilecklaadoor", sum := "41205d0b96236ea9dfeed212626bba7bb6f1bae4c8b9e63b65d4a86beeccfe61", func := "mvdan.cc/sh/v3/n010_125.FnUnAritOperatorStringInjective", spec := "fnUnAritOperatorStringInjective", named := ["mvdan.cc/sh/v3/syntax._token_index", "internal/strconv.uint64pow10", "math/bits.deBruijn32tab", "math/bits.deBruijn64tab"], apart := false, laid := [("math/bits.deBruijn32tab", laid_math_bits_deBruijn32tab), ("math/bits.deBruijn64tab", laid_math_bits_deBruijn64tab), ("internal/strconv.uint64pow10", laid_internal_strconv_uint64pow10), ("mvdan.cc/sh/v3/syntax._token_index", laid_mvdan_cc_sh_v3_syntax_token_index)], narrowed := true }
def FnUnAritOperatorStringInjectiveUptoSaid : Prop := fnUnAritOperatorStringInjectiveUptoRow.holds Tryd.pinned (OpenSpec.upto fnUnAritOperatorStringInjectiveSpec)

/-- 'n010_125.FnUnTestOperatorStringInjective', WHERE WHAT IT READS IS OF BULK AT MOST 1048576: true; the input reads as it did. -/
def fnUnTestOperatorStringInjectiveUptoRow : OpenClaim := { program := "ytleldhnilecklaadoor", sum := "41205d0b96236ea9dfeed212626bba7bb6f1bae4c8b9e63b65d4a86beeccfe61", func := "mvdan.cc/sh/v3/n010_125.FnUnTestOperatorStringInjective", spec := "fnUnTestOperatorStringInjective", named := ["mvdan.cc/sh/v3/syntax._token_index", "internal/strconv.uint64pow10", "math/bits.deBruijn32tab", "math/bits.deBruijn64tab"], apart := false, laid := [("math/bits.deBruijn32tab", laid_math_bits_deBruijn32tab), ("math/bits.deBruijn64tab", laid_math_bits_deBruijn64tab), ("internal/strconv.uint64pow10", laid_internal_strconv_uint64pow10), ("mvdan.cc/sh/v3/syntax._token_index", laid_mvdan_cc_sh_v3_syntax_token_index)], narrowed := true }
def FnUnTestOperatorStringInjectiveUptoSaid : Prop := fnUnTestOperatorStringInjectiveUptoRow.holds Tryd.pinned (OpenSpec.upto fnUnTestOperatorStringInjectiveSpec)

/-- 'n010_10.FnPosRecoveredSentinel', WHERE WHAT IT READS IS OF BULK AT MOST 1048576: true; the input reads as it did. -/
def fnPosRecoveredSentinelUptoRow : OpenClaim := { program := "ytleldhnilecklaadoor", sum := "41205d0b96236ea9dfeed212626bba7bb6f1bae4c8b9e63b65d4a86beeccfe61", func := "mvdan.cc/sh/v3/n010_10.FnPosRecoveredSentinel", spec := "fnPosRecoveredSentinel", inPlace := ["internal/abi.NoEscape"], named := ["mvdan.cc/sh/v3/syntax.recoveredPos", "internal/strconv.uint64pow10", "math/bits.deBruijn32tab", "math/bits.deBruijn64tab"], apart := false, laid := [("math/bits.deBruijn32tab", laid_math_bits_deBruijn32tab), ("math/bits.deBruijn64tab", laid_math_bits_deBruijn64tab), ("internal/strconv.uint64pow10", laid_internal_strconv_uint64pow10), ("mvdan.cc/sh/v3/syntax.recoveredPos", laid_mvdan_cc_sh_v3_syntax_recoveredPos)], narrowed := true }
def FnPosRecoveredSentinelUptoSaid : Prop := fnPosRecoveredSentinelUptoRow.holds Tryd.pinned (OpenSpec.upto fnPosRecoveredSentinelSpec)

end Rows
end Go.Proofs.YtleldhnilecklaaDoor
