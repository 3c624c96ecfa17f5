/-
  DERIVED. GIVEN WITH THE SEED: THE CARDS: each row of YtimaobpcefgdkaaFmtRows.lean that lists a variable, with what it lists TIED to the program's text (the seventh form; the later family's looks); each row that meets fmt, with fmt's text TOLD by the authors' own Lean function (tested against real Go, not proved from fmt's source: count such statements apart). THE CARD IS WHAT COUNTS. Prove the row's statement (the work); the ties are given (YtimaobpcefgdkaaFmtTie.lean); close each card by the builder's one call (the guide's Derived/Test/ToyasCard.lean, 'card_holds'). Laid BY PROGRAM, IN A SANDBOX (cutbox-door.mjs). By AI agents, Wed Nov 11 2026. No macro, syntax, notation, axiom, sorry.
-/
import Derived.Test.YtimaobpcefgdkaaFmtRows
import GoSem.ClaimSeven
namespace Go.Proofs.YtimaobpcefgdkaaFmt
namespace Rows

/-- THE TOLD CARD OF 'n010_124.FnEnsureNoNestedFirstErrorWins'. -/
def fnEnsureNoNestedFirstErrorWinsCard : Claim7 := { stood := { row := fnEnsureNoNestedFirstErrorWinsRow, standIns := [], harness := (true, "3a7f352ab425a5b75f808fd52a0ca40463602ff44e78eb027bbd6590cac65bd3"), looks := true }, told := true, goes := false }
def FnEnsureNoNestedFirstErrorWinsToldSaid : Prop := Claim7.holds Tryf.pinned (.plain (OpenSpec.ofChange fnEnsureNoNestedFirstErrorWinsSpec)) fnEnsureNoNestedFirstErrorWinsCard
/-- ITS FALSE NEIGHBOUR. Refute it at one input. -/
def FnEnsureNoNestedFirstErrorWinsToldWrongFalsely : Prop := Claim7.holds Tryf.pinned (.plain (OpenSpec.ofChange fnEnsureNoNestedFirstErrorWinsWrong)) fnEnsureNoNestedFirstErrorWinsCard

/-- THE TOLD CARD OF 'n010_112.FnCheckLangFirstRefusalSticks'. -/
def fnCheckLangFirstRefusalSticksCard : Claim7 := { stood := { row := fnCheckLangFirstRefusalSticksRow, standIns := [], harness := (true, "3a7f352ab425a5b75f808fd52a0ca40463602ff44e78eb027bbd6590cac65bd3"), looks := true }, told := true, goes := false }
def FnCheckLangFirstRefusalSticksToldSaid : Prop := Claim7.holds Tryf.pinned (.plain (OpenSpec.ofChange fnCheckLangFirstRefusalSticksSpec)) fnCheckLangFirstRefusalSticksCard
/-- ITS FALSE NEIGHBOUR. Refute it at one input. -/
def FnCheckLangFirstRefusalSticksToldWrongFalsely : Prop := Claim7.holds Tryf.pinned (.plain (OpenSpec.ofChange fnCheckLangFirstRefusalSticksWrong)) fnCheckLangFirstRefusalSticksCard
end Rows
end Go.Proofs.YtimaobpcefgdkaaFmt
