/-
  No cell of these rows narrows 'for every input' (looked for: loops, veiled, ifaces, maps, wideKeys, modest, calm, conditions, laid).
  DERIVED. THE GIVEN ROWS OF THIS SEAT. 2 by the template 'for every input the law returns true; each argument reads behind the call as it read before'; 0 by the template 'total and deterministic' (their statements: YtimaobpcefgdkaaFmtTotals.lean).
  GIVEN WITH THE SEED: the statements are not yours to turn. If you find one false, say at which input.
  Laid BY PROGRAM, IN A SANDBOX (cutbox-rows.mjs): the forced cells as the released guide's own fill.sh prints them over the translation 5a85192171d328c1… (all of the seat's roots in one cut). By AI agents, Wed Nov 11 2026. No macro, syntax, notation, axiom, sorry.
-/
import Derived.Test.YtimaobpcefgdkaaFmtChecked
import GoSem.Claim
import GoSem.ClaimJoined
import GoSem.ClaimMapViews
import Derived.JoinedTies
import Derived.KernelRfl
namespace Go.Proofs.YtimaobpcefgdkaaFmt
/- THE CELL 'sum', in the pinned program and in every row, IS THE sha256 OF THE DUMP (.gsa) THAT YtimaobpcefgdkaaFmtProg.lean LOADS. Nothing in Lean hashes anything: it is a label: what it is worth is what the hold of that sum in a sandbox is worth. -/
noncomputable def Tryf.pinned : Pinned := { name := "ytimaobpcefgdkaafmt", sum := "5a85192171d328c129d6f8f9a0f28512f055f053ab408995bd585510acafabb8", checked := Tryf.checked }
namespace Rows
def none {H : Type} : Left H := { results := [], args := [] }

/-- 'n010_124.FnEnsureNoNestedFirstErrorWins': WHATEVER THE INPUT: true; the input reads as it did. -/
def fnEnsureNoNestedFirstErrorWinsSpec : ChangeSpec := { name := "fnEnsureNoNestedFirstErrorWins", fn := fun _ => fun
  | [d1, d2, d3, d4, d5, d6, d7, d8] => { results := [.lit (.bool true)], args := [d1, d2, d3, d4, d5, d6, d7, d8] }
  | _ => none }
def fnEnsureNoNestedFirstErrorWinsRow : OpenClaim := { program := "ytimaobpcefgdkaafmt", sum := "5a85192171d328c129d6f8f9a0f28512f055f053ab408995bd585510acafabb8", func := "mvdan.cc/sh/v3/n010_124.FnEnsureNoNestedFirstErrorWins", spec := "fnEnsureNoNestedFirstErrorWins", stops := ["fmt.Sprintf, its operands' methods called"], inPlace := ["fmt.Sprintf"], unfollowed := true, recurses := true, apart := false }
/-- NO THEOREM (fmt's text is open here; it may be false): for the released tool's asking of the row's closed facts alone. THE STATEMENT IS 'FnEnsureNoNestedFirstErrorWinsToldSaid' (YtimaobpcefgdkaaFmtCards.lean). -/
def FnEnsureNoNestedFirstErrorWinsFormAsk : Prop := fnEnsureNoNestedFirstErrorWinsRow.holds Tryf.pinned (OpenSpec.ofChange fnEnsureNoNestedFirstErrorWinsSpec)

/-- ITS FALSE NEIGHBOUR: 'it returns false'. Refute it at one input. -/
def fnEnsureNoNestedFirstErrorWinsWrong : ChangeSpec := { name := "fnEnsureNoNestedFirstErrorWins", fn := fun _ => fun
  | [d1, d2, d3, d4, d5, d6, d7, d8] => { results := [.lit (.bool false)], args := [d1, d2, d3, d4, d5, d6, d7, d8] }
  | _ => none }
def FnEnsureNoNestedFirstErrorWinsWrongFormAsk : Prop := fnEnsureNoNestedFirstErrorWinsRow.holds Tryf.pinned (OpenSpec.ofChange fnEnsureNoNestedFirstErrorWinsWrong)

/-- 'n010_112.FnCheckLangFirstRefusalSticks': WHATEVER THE INPUT: true; the input reads as it did. -/
def fnCheckLangFirstRefusalSticksSpec : ChangeSpec := { name := "fnCheckLangFirstRefusalSticks", fn := fun _ => fun
  | [d1, d2, d3] => { results := [.lit (.bool true)], args := [d1, d2, d3] }
  | _ => none }
def fnCheckLangFirstRefusalSticksRow : OpenClaim := { program := "ytimaobpcefgdkaafmt", sum := "5a85192171d328c129d6f8f9a0f28512f055f053ab408995bd585510acafabb8", func := "mvdan.cc/sh/v3/n010_112.FnCheckLangFirstRefusalSticks", spec := "fnCheckLangFirstRefusalSticks", stops := ["fmt.Sprintf, its operands' methods called"], inPlace := ["fmt.Sprintf"], unfollowed := true, recurses := true, apart := false }
/-- NO THEOREM (fmt's text is open here; it may be false): for the released tool's asking of the row's closed facts alone. THE STATEMENT IS 'FnCheckLangFirstRefusalSticksToldSaid' (YtimaobpcefgdkaaFmtCards.lean). -/
def FnCheckLangFirstRefusalSticksFormAsk : Prop := fnCheckLangFirstRefusalSticksRow.holds Tryf.pinned (OpenSpec.ofChange fnCheckLangFirstRefusalSticksSpec)

/-- ITS FALSE NEIGHBOUR: 'it returns false'. Refute it at one input. -/
def fnCheckLangFirstRefusalSticksWrong : ChangeSpec := { name := "fnCheckLangFirstRefusalSticks", fn := fun _ => fun
  | [d1, d2, d3] => { results := [.lit (.bool false)], args := [d1, d2, d3] }
  | _ => none }
def FnCheckLangFirstRefusalSticksWrongFormAsk : Prop := fnCheckLangFirstRefusalSticksRow.holds Tryf.pinned (OpenSpec.ofChange fnCheckLangFirstRefusalSticksWrong)

end Rows
end Go.Proofs.YtimaobpcefgdkaaFmt
