/-
  DERIVED. GIVEN WITH THE SEED: THE CARDS: each row of YtleldhnilecklaaDoorRows.lean that lists a variable, with what it lists TIED to the program's text (the seventh form; the later family's looks); each row that meets fmt, with fmt's text TOLD by the authors' own Lean function (tested against real Go, not proved from fmt's source: count such statements apart). THE CARD IS WHAT COUNTS. Prove the row's statement (the work); the ties are given (YtleldhnilecklaaDoorTie.lean); close each card by the builder's one call (the guide's Derived/Test/ToyasCard.lean, 'card_holds'). Laid BY PROGRAM, IN A SANDBOX (cutbox-door.mjs). By AI agents, Wed Nov 11 2026. No macro, syntax, notation, axiom, sorry.
-/
import Derived.Test.YtleldhnilecklaaDoorRows
import GoSem.ClaimSeven
namespace Go.Proofs.YtleldhnilecklaaDoor
namespace Rows

/-- THE TIED CARD OF 'n010_10.FnPosStringExact'. -/
def fnPosStringExactCard : Claim7 := { stood := { row := fnPosStringExactRow, standIns := [], harness := (true, "fd23ef2de6a7333cecb30909156310429a70c183a2f8ffc65d67e5caddc11783"), looks := false }, kinds := [], alts := [], laidByText := true, laidKinds := [.data, .data, .data], laidTests := true, laidLooks := .later }
def FnPosStringExactCardSaid : Prop := Claim7.holds Tryd.pinned (.plain (OpenSpec.ofChange fnPosStringExactSpec)) fnPosStringExactCard

/-- THE TIED CARD OF 'n010_10.FnPosIsValidAgreesWithString'. -/
def fnPosIsValidAgreesWithStringCard : Claim7 := { stood := { row := fnPosIsValidAgreesWithStringRow, standIns := [], harness := (true, "fd23ef2de6a7333cecb30909156310429a70c183a2f8ffc65d67e5caddc11783"), looks := false }, kinds := [], alts := [], laidByText := true, laidKinds := [.data, .data, .data], laidTests := true, laidLooks := .later }
def FnPosIsValidAgreesWithStringCardSaid : Prop := Claim7.holds Tryd.pinned (.plain (OpenSpec.ofChange fnPosIsValidAgreesWithStringSpec)) fnPosIsValidAgreesWithStringCard

/-- THE TIED CARD OF 'n010_125.FnBinAritOperatorStringInjective'. -/
def fnBinAritOperatorStringInjectiveCard : Claim7 := { stood := { row := fnBinAritOperatorStringInjectiveRow, standIns := [], harness := (true, "fd23ef2de6a7333cecb30909156310429a70c183a2f8ffc65d67e5caddc11783"), looks := false }, kinds := [], alts := [], laidByText := true, laidKinds := [.data, .data, .data, .data], laidTests := true, laidLooks := .later }
def FnBinAritOperatorStringInjectiveCardSaid : Prop := Claim7.holds Tryd.pinned (.plain (OpenSpec.ofChange fnBinAritOperatorStringInjectiveSpec)) fnBinAritOperatorStringInjectiveCard

/-- THE TIED CARD OF 'n010_125.FnBinTestOperatorStringInjective'. -/
def fnBinTestOperatorStringInjectiveCard : Claim7 := { stood := { row := fnBinTestOperatorStringInjectiveRow, standIns := [], harness := (true, "fd23ef2de6a7333cecb30909156310429a70c183a2f8ffc65d67e5caddc11783"), looks := false }, kinds := [], alts := [], laidByText := true, laidKinds := [.data, .data, .data, .data], laidTests := true, laidLooks := .later }
def FnBinTestOperatorStringInjectiveCardSaid : Prop := Claim7.holds Tryd.pinned (.plain (OpenSpec.ofChange fnBinTestOperatorStringInjectiveSpec)) fnBinTestOperatorStringInjectiveCard

/-- THE TIED CARD OF 'n010_125.FnUnAritOperatorStringInjective'. -/
def fnUnAritOperatorStringInjectiveCard : Claim7 := { stood := { row := fnUnAritOperatorStringInjectiveRow, standIns := [], harness := (true, "fd23ef2de6a7333cecb30909156310429a70c183a2f8ffc65d67e5caddc11783"), looks := false }, kinds := [], alts := [], laidByText := true, laidKinds := [.data, .data, .data, .data], laidTests := true, laidLooks := .later }
def FnUnAritOperatorStringInjectiveCardSaid : Prop := Claim7.holds Tryd.pinned (.plain (OpenSpec.ofChange fnUnAritOperatorStringInjectiveSpec)) fnUnAritOperatorStringInjectiveCard

/-- THE TIED CARD OF 'n010_125.FnUnTestOperatorStringInjective'. -/
def fnUnTestOperatorStringInjectiveCard : Claim7 := { stood := { row := fnUnTestOperatorStringInjectiveRow, standIns := [], harness := (true, "fd23ef2de6a7333cecb30909156310429a70c183a2f8ffc65d67e5caddc11783"), looks := false }, kinds := [], alts := [], laidByText := true, laidKinds := [.data, .data, .data, .data], laidTests := true, laidLooks := .later }
def FnUnTestOperatorStringInjectiveCardSaid : Prop := Claim7.holds Tryd.pinned (.plain (OpenSpec.ofChange fnUnTestOperatorStringInjectiveSpec)) fnUnTestOperatorStringInjectiveCard

/-- THE TIED CARD OF 'n010_10.FnPosRecoveredSentinel'. -/
def fnPosRecoveredSentinelCard : Claim7 := { stood := { row := fnPosRecoveredSentinelRow, standIns := [], harness := (true, "fd23ef2de6a7333cecb30909156310429a70c183a2f8ffc65d67e5caddc11783"), looks := false }, kinds := [], alts := [], laidByText := true, laidKinds := [.data, .data, .data, .data], laidTests := true, laidLooks := .later }
def FnPosRecoveredSentinelCardSaid : Prop := Claim7.holds Tryd.pinned (.plain (OpenSpec.ofChange fnPosRecoveredSentinelSpec)) fnPosRecoveredSentinelCard

/-- THE SECOND FORM's CARD OF 'n010_10.FnPosStringExact'. -/
def fnPosStringExactUptoCard : Claim7 := { stood := { row := fnPosStringExactUptoRow, standIns := [], harness := (true, "fd23ef2de6a7333cecb30909156310429a70c183a2f8ffc65d67e5caddc11783"), looks := false }, kinds := [], alts := [], laidByText := true, laidKinds := [.data, .data, .data], laidTests := true, laidLooks := .later }
def FnPosStringExactUptoCardSaid : Prop := Claim7.holds Tryd.pinned (.plain (OpenSpec.upto fnPosStringExactSpec)) fnPosStringExactUptoCard

/-- THE SECOND FORM's CARD OF 'n010_10.FnPosIsValidAgreesWithString'. -/
def fnPosIsValidAgreesWithStringUptoCard : Claim7 := { stood := { row := fnPosIsValidAgreesWithStringUptoRow, standIns := [], harness := (true, "fd23ef2de6a7333cecb30909156310429a70c183a2f8ffc65d67e5caddc11783"), looks := false }, kinds := [], alts := [], laidByText := true, laidKinds := [.data, .data, .data], laidTests := true, laidLooks := .later }
def FnPosIsValidAgreesWithStringUptoCardSaid : Prop := Claim7.holds Tryd.pinned (.plain (OpenSpec.upto fnPosIsValidAgreesWithStringSpec)) fnPosIsValidAgreesWithStringUptoCard

/-- THE SECOND FORM's CARD OF 'n010_125.FnBinAritOperatorStringInjective'. -/
def fnBinAritOperatorStringInjectiveUptoCard : Claim7 := { stood := { row := fnBinAritOperatorStringInjectiveUptoRow, standIns := [], harness := (true, "fd23ef2de6a7333cecb30909156310429a70c183a2f8ffc65d67e5caddc11783"), looks := false }, kinds := [], alts := [], laidByText := true, laidKinds := [.data, .data, .data, .data], laidTests := true, laidLooks := .later }
def FnBinAritOperatorStringInjectiveUptoCardSaid : Prop := Claim7.holds Tryd.pinned (.plain (OpenSpec.upto fnBinAritOperatorStringInjectiveSpec)) fnBinAritOperatorStringInjectiveUptoCard

/-- THE SECOND FORM's CARD OF 'n010_125.FnBinTestOperatorStringInjective'. -/
def fnBinTestOperatorStringInjectiveUptoCard : Claim7 := { stood := { row := fnBinTestOperatorStringInjectiveUptoRow, standIns := [], harness := (true, "fd23ef2de6a7333cecb30909156310429a70c183a2f8ffc65d67e5caddc11783"), looks := false }, kinds := [], alts := [], laidByText := true, laidKinds := [.data, .data, .data, .data], laidTests := true, laidLooks := .later }
def FnBinTestOperatorStringInjectiveUptoCardSaid : Prop := Claim7.holds Tryd.pinned (.plain (OpenSpec.upto fnBinTestOperatorStringInjectiveSpec)) fnBinTestOperatorStringInjectiveUptoCard

/-- THE SECOND FORM's CARD OF 'n010_125.FnUnAritOperatorStringInjective'. -/
def fnUnAritOperatorStringInjectiveUptoCard : Claim7 := { stood := { row := fnUnAritOperatorStringInjectiveUptoRow, standIns := [], harness := (true, "fd23ef2de6a7333cecb30909156310429a70c183a2f8ffc65d67e5caddc11783"), looks := false }, kinds := [], alts := [], laidByText := true, laidKinds := [.data, .data, .data, .data], laidTests := true, laidLooks := .later }
def FnUnAritOperatorStringInjectiveUptoCardSaid : Prop := Claim7.holds Tryd.pinned (.plain (OpenSpec.upto fnUnAritOperatorStringInjectiveSpec)) fnUnAritOperatorStringInjectiveUptoCard

/-- THE SECOND FORM's CARD OF 'n010_125.FnUnTestOperatorStringInjective'. -/
def fnUnTestOperatorStringInjectiveUptoCard : Claim7 := { stood := { row := fnUnTestOperatorStringInjectiveUptoRow, standIns := [], harness := (true, "fd23ef2de6a7333cecb30909156310429a70c183a2f8ffc65d67e5caddc11783"), looks := false }, kinds := [], alts := [], laidByText := true, laidKinds := [.data, .data, .data, .data], laidTests := true, laidLooks := .later }
def FnUnTestOperatorStringInjectiveUptoCardSaid : Prop := Claim7.holds Tryd.pinned (.plain (OpenSpec.upto fnUnTestOperatorStringInjectiveSpec)) fnUnTestOperatorStringInjectiveUptoCard

/-- THE SECOND FORM's CARD OF 'n010_10.FnPosRecoveredSentinel'. -/
def fnPosRecoveredSentinelUptoCard : Claim7 := { stood := { row := fnPosRecoveredSentinelUptoRow, standIns := [], harness := (true, "fd23ef2de6a7333cecb30909156310429a70c183a2f8ffc65d67e5caddc11783"), looks := false }, kinds := [], alts := [], laidByText := true, laidKinds := [.data, .data, .data, .data], laidTests := true, laidLooks := .later }
def FnPosRecoveredSentinelUptoCardSaid : Prop := Claim7.holds Tryd.pinned (.plain (OpenSpec.upto fnPosRecoveredSentinelSpec)) fnPosRecoveredSentinelUptoCard
end Rows
end Go.Proofs.YtleldhnilecklaaDoor
