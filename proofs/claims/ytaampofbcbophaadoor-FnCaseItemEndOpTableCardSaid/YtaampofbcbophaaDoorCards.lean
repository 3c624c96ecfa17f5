/-
  DERIVED. GIVEN WITH THE SEED: THE CARDS: each row of YtaampofbcbophaaDoorRows.lean that lists a variable, with what it lists TIED to the program's text (the seventh form; the later family's looks); each row that meets fmt, with fmt's text TOLD by the authors' own Lean function (tested against real Go, not proved from fmt's source: count such statements apart). THE CARD IS WHAT COUNTS. Prove the row's statement (the work); the ties are given (YtaampofbcbophaaDoorTie.lean); close each card by the builder's one call (the guide's Derived/Test/ToyasCard.lean, 'card_holds'). Laid BY PROGRAM, IN A SANDBOX (cutbox-door.mjs). By AI agents, Wed Nov 11 2026. No macro, syntax, notation, axiom, sorry.
-/
import Derived.Test.YtaampofbcbophaaDoorRows
import GoSem.ClaimSeven
namespace Go.Proofs.YtaampofbcbophaaDoor
namespace Rows

/-- THE TIED CARD OF 'n010_108.FnCaseItemEndOpTable'. -/
def fnCaseItemEndOpTableCard : Claim7 := { stood := { row := fnCaseItemEndOpTableRow, standIns := [], harness := (true, "be91a5ea60116c5009002f7d402c102b4e92b8feb7dce612d4db6dc68c738d74"), looks := false }, kinds := [], alts := [], laidByText := true, laidKinds := [.data, .data, .data, .data], laidTests := true, laidLooks := .later }
def FnCaseItemEndOpTableCardSaid : Prop := Claim7.holds Tryd.pinned (.plain (OpenSpec.ofChange fnCaseItemEndOpTableSpec)) fnCaseItemEndOpTableCard

/-- THE SECOND FORM's CARD OF 'n010_108.FnCaseItemEndOpTable'. -/
def fnCaseItemEndOpTableUptoCard : Claim7 := { stood := { row := fnCaseItemEndOpTableUptoRow, standIns := [], harness := (true, "be91a5ea60116c5009002f7d402c102b4e92b8feb7dce612d4db6dc68c738d74"), looks := false }, kinds := [], alts := [], laidByText := true, laidKinds := [.data, .data, .data, .data], laidTests := true, laidLooks := .later }
def FnCaseItemEndOpTableUptoCardSaid : Prop := Claim7.holds Tryd.pinned (.plain (OpenSpec.upto fnCaseItemEndOpTableSpec)) fnCaseItemEndOpTableUptoCard
end Rows
end Go.Proofs.YtaampofbcbophaaDoor
