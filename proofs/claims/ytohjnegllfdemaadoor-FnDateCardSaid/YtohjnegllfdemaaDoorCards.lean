/-
  DERIVED. GIVEN WITH THE SEED: THE CARDS: each row of YtohjnegllfdemaaDoorRows.lean that lists a variable, with what it lists TIED to the program's text (the seventh form; the later family's looks); each row that meets fmt, with fmt's text TOLD by the authors' own Lean function (tested against real Go, not proved from fmt's source: count such statements apart). THE CARD IS WHAT COUNTS. Prove the row's statement (the work); the ties are given (YtohjnegllfdemaaDoorTie.lean); close each card by the builder's one call (the guide's Derived/Test/ToyasCard.lean, 'card_holds'). Laid BY PROGRAM, IN A SANDBOX (cutbox-door.mjs). By AI agents, Wed Nov 11 2026. No macro, syntax, notation, axiom, sorry.
-/
import Derived.Test.YtohjnegllfdemaaDoorRows
import GoSem.ClaimSeven
namespace Go.Proofs.YtohjnegllfdemaaDoor
namespace Rows

/-- THE TIED CARD OF 'laws.FnDisplay'. -/
def fnDisplayCard : Claim7 := { stood := { row := fnDisplayRow, standIns := [], harness := (true, "7c1416277872469db0285a954ae547ce6842a3fb96560ae51bd269d382e57181"), looks := true }, kinds := [], alts := [], laidByText := true, laidKinds := [.data, .pinned], laidTests := true, laidLooks := .later }
def FnDisplayCardSaid : Prop := Claim7.holds Tryd.pinned (.plain (OpenSpec.ofChange fnDisplaySpec)) fnDisplayCard

/-- THE TIED CARD OF 'laws.FnParameters'. -/
def fnParametersCard : Claim7 := { stood := { row := fnParametersRow, standIns := [], harness := (true, "7c1416277872469db0285a954ae547ce6842a3fb96560ae51bd269d382e57181"), looks := true }, kinds := [], alts := [], laidByText := true, laidKinds := [.data, .pinned], laidTests := true, laidLooks := .later }
def FnParametersCardSaid : Prop := Claim7.holds Tryd.pinned (.plain (OpenSpec.ofChange fnParametersSpec)) fnParametersCard

/-- THE TIED CARD OF 'laws.FnItem'. -/
def fnItemCard : Claim7 := { stood := { row := fnItemRow, standIns := [], harness := (true, "7c1416277872469db0285a954ae547ce6842a3fb96560ae51bd269d382e57181"), looks := true }, kinds := [], alts := [], laidByText := true, laidKinds := [.data, .pinned], laidTests := true, laidLooks := .later }
def FnItemCardSaid : Prop := Claim7.holds Tryd.pinned (.plain (OpenSpec.ofChange fnItemSpec)) fnItemCard

/-- THE TIED CARD OF 'laws.FnInnerList'. -/
def fnInnerListCard : Claim7 := { stood := { row := fnInnerListRow, standIns := [], harness := (true, "7c1416277872469db0285a954ae547ce6842a3fb96560ae51bd269d382e57181"), looks := true }, kinds := [], alts := [], laidByText := true, laidKinds := [.data, .pinned], laidTests := true, laidLooks := .later }
def FnInnerListCardSaid : Prop := Claim7.holds Tryd.pinned (.plain (OpenSpec.ofChange fnInnerListSpec)) fnInnerListCard

/-- THE TIED CARD OF 'laws.FnList'. -/
def fnListCard : Claim7 := { stood := { row := fnListRow, standIns := [], harness := (true, "7c1416277872469db0285a954ae547ce6842a3fb96560ae51bd269d382e57181"), looks := true }, kinds := [], alts := [], laidByText := true, laidKinds := [.data, .pinned], laidTests := true, laidLooks := .later }
def FnListCardSaid : Prop := Claim7.holds Tryd.pinned (.plain (OpenSpec.ofChange fnListSpec)) fnListCard

/-- THE TIED CARD OF 'laws.FnListJoins'. -/
def fnListJoinsCard : Claim7 := { stood := { row := fnListJoinsRow, standIns := [], harness := (true, "7c1416277872469db0285a954ae547ce6842a3fb96560ae51bd269d382e57181"), looks := true }, kinds := [], alts := [], laidByText := true, laidKinds := [.data, .pinned], laidTests := true, laidLooks := .later }
def FnListJoinsCardSaid : Prop := Claim7.holds Tryd.pinned (.plain (OpenSpec.ofChange fnListJoinsSpec)) fnListJoinsCard

/-- THE TIED CARD OF 'laws.FnDictionary'. -/
def fnDictionaryCard : Claim7 := { stood := { row := fnDictionaryRow, standIns := [], harness := (true, "7c1416277872469db0285a954ae547ce6842a3fb96560ae51bd269d382e57181"), looks := true }, kinds := [], alts := [], laidByText := true, laidKinds := [.data, .pinned], laidTests := true, laidLooks := .later }
def FnDictionaryCardSaid : Prop := Claim7.holds Tryd.pinned (.plain (OpenSpec.ofChange fnDictionarySpec)) fnDictionaryCard

/-- THE TIED CARD OF 'laws.FnHandedOut'. -/
def fnHandedOutCard : Claim7 := { stood := { row := fnHandedOutRow, standIns := [], harness := (true, "7c1416277872469db0285a954ae547ce6842a3fb96560ae51bd269d382e57181"), looks := true }, kinds := [], alts := [], laidByText := true, laidKinds := [.data, .pinned], laidTests := true, laidLooks := .later }
def FnHandedOutCardSaid : Prop := Claim7.holds Tryd.pinned (.plain (OpenSpec.ofChange fnHandedOutSpec)) fnHandedOutCard

/-- THE TIED CARD OF 'laws.FnInteger'. -/
def fnIntegerCard : Claim7 := { stood := { row := fnIntegerRow, standIns := [], harness := (true, "7c1416277872469db0285a954ae547ce6842a3fb96560ae51bd269d382e57181"), looks := true }, kinds := [], alts := [], laidByText := true, laidKinds := [.data, .data, .data, .sentinel, .sentinel], laidTests := true, laidLooks := .later }
def FnIntegerCardSaid : Prop := Claim7.holds Tryd.pinned (.plain (OpenSpec.ofChange fnIntegerSpec)) fnIntegerCard

/-- THE TIED CARD OF 'laws.FnDate'. -/
def fnDateCard : Claim7 := { stood := { row := fnDateRow, standIns := [], harness := (true, "7c1416277872469db0285a954ae547ce6842a3fb96560ae51bd269d382e57181"), looks := true }, kinds := [], alts := [], laidByText := true, laidKinds := [.data, .data, .data, .sentinel, .sentinel], laidTests := true, laidLooks := .later }
def FnDateCardSaid : Prop := Claim7.holds Tryd.pinned (.plain (OpenSpec.ofChange fnDateSpec)) fnDateCard

/-- THE SECOND FORM's CARD OF 'laws.FnDisplay'. -/
def fnDisplayUptoCard : Claim7 := { stood := { row := fnDisplayUptoRow, standIns := [], harness := (true, "7c1416277872469db0285a954ae547ce6842a3fb96560ae51bd269d382e57181"), looks := true }, kinds := [], alts := [], laidByText := true, laidKinds := [.data, .pinned], laidTests := true, laidLooks := .later }
def FnDisplayUptoCardSaid : Prop := Claim7.holds Tryd.pinned (.plain (OpenSpec.upto fnDisplaySpec)) fnDisplayUptoCard

/-- THE SECOND FORM's CARD OF 'laws.FnParameters'. -/
def fnParametersUptoCard : Claim7 := { stood := { row := fnParametersUptoRow, standIns := [], harness := (true, "7c1416277872469db0285a954ae547ce6842a3fb96560ae51bd269d382e57181"), looks := true }, kinds := [], alts := [], laidByText := true, laidKinds := [.data, .pinned], laidTests := true, laidLooks := .later }
def FnParametersUptoCardSaid : Prop := Claim7.holds Tryd.pinned (.plain (OpenSpec.upto fnParametersSpec)) fnParametersUptoCard

/-- THE SECOND FORM's CARD OF 'laws.FnItem'. -/
def fnItemUptoCard : Claim7 := { stood := { row := fnItemUptoRow, standIns := [], harness := (true, "7c1416277872469db0285a954ae547ce6842a3fb96560ae51bd269d382e57181"), looks := true }, kinds := [], alts := [], laidByText := true, laidKinds := [.data, .pinned], laidTests := true, laidLooks := .later }
def FnItemUptoCardSaid : Prop := Claim7.holds Tryd.pinned (.plain (OpenSpec.upto fnItemSpec)) fnItemUptoCard

/-- THE SECOND FORM's CARD OF 'laws.FnInnerList'. -/
def fnInnerListUptoCard : Claim7 := { stood := { row := fnInnerListUptoRow, standIns := [], harness := (true, "7c1416277872469db0285a954ae547ce6842a3fb96560ae51bd269d382e57181"), looks := true }, kinds := [], alts := [], laidByText := true, laidKinds := [.data, .pinned], laidTests := true, laidLooks := .later }
def FnInnerListUptoCardSaid : Prop := Claim7.holds Tryd.pinned (.plain (OpenSpec.upto fnInnerListSpec)) fnInnerListUptoCard

/-- THE SECOND FORM's CARD OF 'laws.FnList'. -/
def fnListUptoCard : Claim7 := { stood := { row := fnListUptoRow, standIns := [], harness := (true, "7c1416277872469db0285a954ae547ce6842a3fb96560ae51bd269d382e57181"), looks := true }, kinds := [], alts := [], laidByText := true, laidKinds := [.data, .pinned], laidTests := true, laidLooks := .later }
def FnListUptoCardSaid : Prop := Claim7.holds Tryd.pinned (.plain (OpenSpec.upto fnListSpec)) fnListUptoCard

/-- THE SECOND FORM's CARD OF 'laws.FnListJoins'. -/
def fnListJoinsUptoCard : Claim7 := { stood := { row := fnListJoinsUptoRow, standIns := [], harness := (true, "7c1416277872469db0285a954ae547ce6842a3fb96560ae51bd269d382e57181"), looks := true }, kinds := [], alts := [], laidByText := true, laidKinds := [.data, .pinned], laidTests := true, laidLooks := .later }
def FnListJoinsUptoCardSaid : Prop := Claim7.holds Tryd.pinned (.plain (OpenSpec.upto fnListJoinsSpec)) fnListJoinsUptoCard

/-- THE SECOND FORM's CARD OF 'laws.FnDictionary'. -/
def fnDictionaryUptoCard : Claim7 := { stood := { row := fnDictionaryUptoRow, standIns := [], harness := (true, "7c1416277872469db0285a954ae547ce6842a3fb96560ae51bd269d382e57181"), looks := true }, kinds := [], alts := [], laidByText := true, laidKinds := [.data, .pinned], laidTests := true, laidLooks := .later }
def FnDictionaryUptoCardSaid : Prop := Claim7.holds Tryd.pinned (.plain (OpenSpec.upto fnDictionarySpec)) fnDictionaryUptoCard

/-- THE SECOND FORM's CARD OF 'laws.FnHandedOut'. -/
def fnHandedOutUptoCard : Claim7 := { stood := { row := fnHandedOutUptoRow, standIns := [], harness := (true, "7c1416277872469db0285a954ae547ce6842a3fb96560ae51bd269d382e57181"), looks := true }, kinds := [], alts := [], laidByText := true, laidKinds := [.data, .pinned], laidTests := true, laidLooks := .later }
def FnHandedOutUptoCardSaid : Prop := Claim7.holds Tryd.pinned (.plain (OpenSpec.upto fnHandedOutSpec)) fnHandedOutUptoCard

/-- THE SECOND FORM's CARD OF 'laws.FnInteger'. -/
def fnIntegerUptoCard : Claim7 := { stood := { row := fnIntegerUptoRow, standIns := [], harness := (true, "7c1416277872469db0285a954ae547ce6842a3fb96560ae51bd269d382e57181"), looks := true }, kinds := [], alts := [], laidByText := true, laidKinds := [.data, .data, .data, .sentinel, .sentinel], laidTests := true, laidLooks := .later }
def FnIntegerUptoCardSaid : Prop := Claim7.holds Tryd.pinned (.plain (OpenSpec.upto fnIntegerSpec)) fnIntegerUptoCard

/-- THE SECOND FORM's CARD OF 'laws.FnDate'. -/
def fnDateUptoCard : Claim7 := { stood := { row := fnDateUptoRow, standIns := [], harness := (true, "7c1416277872469db0285a954ae547ce6842a3fb96560ae51bd269d382e57181"), looks := true }, kinds := [], alts := [], laidByText := true, laidKinds := [.data, .data, .data, .sentinel, .sentinel], laidTests := true, laidLooks := .later }
def FnDateUptoCardSaid : Prop := Claim7.holds Tryd.pinned (.plain (OpenSpec.upto fnDateSpec)) fnDateUptoCard
end Rows
end Go.Proofs.YtohjnegllfdemaaDoor
