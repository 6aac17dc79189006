/-
  DERIVED. GIVEN WITH THE SEED: THE CARDS: each row of YtkiopdmnkinphaaDoorRows.lean that lists a variable, with what it lists TIED to the program's text (the seventh form; the later family's looks); each row that meets fmt, with fmt's text TOLD by the authors' own Lean function (tested against real Go, not proved from fmt's source: count such statements apart). THE CARD IS WHAT COUNTS. Prove the row's statement (the work); the ties are given (YtkiopdmnkinphaaDoorTie.lean); close each card by the builder's one call (the guide's Derived/Test/ToyasCard.lean, 'card_holds'). Laid BY PROGRAM, IN A SANDBOX (cutbox-door.mjs). By AI agents, Wed Nov 11 2026. No macro, syntax, notation, axiom, sorry.
-/
import Derived.Test.YtkiopdmnkinphaaDoorRows
import GoSem.ClaimSeven
namespace Go.Proofs.YtkiopdmnkinphaaDoor
namespace Rows

/-- THE TIED CARD OF 'laws.FnTokenRune'. -/
def fnTokenRuneCard : Claim7 := { stood := { row := fnTokenRuneRow, standIns := [], harness := (true, "ba10af748cfa56e3f96bd5cc0583c15a3776f0c5c9474f3df563a0cb4797833b"), looks := false }, kinds := [], alts := [], laidByText := true, laidKinds := [.data], laidTests := true, laidLooks := .later }
def FnTokenRuneCardSaid : Prop := Claim7.holds Tryd.pinned (.plain (OpenSpec.ofChange fnTokenRuneSpec)) fnTokenRuneCard

/-- THE TIED CARD OF 'laws.FnFieldName'. -/
def fnFieldNameCard : Claim7 := { stood := { row := fnFieldNameRow, standIns := [], harness := (true, "ba10af748cfa56e3f96bd5cc0583c15a3776f0c5c9474f3df563a0cb4797833b"), looks := false }, kinds := [], alts := [], laidByText := true, laidKinds := [.data], laidTests := true, laidLooks := .later }
def FnFieldNameCardSaid : Prop := Claim7.holds Tryd.pinned (.plain (OpenSpec.ofChange fnFieldNameSpec)) fnFieldNameCard

/-- THE TIED CARD OF 'laws.FnHost'. -/
def fnHostCard : Claim7 := { stood := { row := fnHostRow, standIns := [], harness := (true, "ba10af748cfa56e3f96bd5cc0583c15a3776f0c5c9474f3df563a0cb4797833b"), looks := false }, kinds := [], alts := [], laidByText := true, laidKinds := [.data], laidTests := true, laidLooks := .later }
def FnHostCardSaid : Prop := Claim7.holds Tryd.pinned (.plain (OpenSpec.ofChange fnHostSpec)) fnHostCard

/-- THE SECOND FORM's CARD OF 'laws.FnTokenRune'. -/
def fnTokenRuneUptoCard : Claim7 := { stood := { row := fnTokenRuneUptoRow, standIns := [], harness := (true, "ba10af748cfa56e3f96bd5cc0583c15a3776f0c5c9474f3df563a0cb4797833b"), looks := false }, kinds := [], alts := [], laidByText := true, laidKinds := [.data], laidTests := true, laidLooks := .later }
def FnTokenRuneUptoCardSaid : Prop := Claim7.holds Tryd.pinned (.plain (OpenSpec.upto fnTokenRuneSpec)) fnTokenRuneUptoCard

/-- THE SECOND FORM's CARD OF 'laws.FnFieldName'. -/
def fnFieldNameUptoCard : Claim7 := { stood := { row := fnFieldNameUptoRow, standIns := [], harness := (true, "ba10af748cfa56e3f96bd5cc0583c15a3776f0c5c9474f3df563a0cb4797833b"), looks := false }, kinds := [], alts := [], laidByText := true, laidKinds := [.data], laidTests := true, laidLooks := .later }
def FnFieldNameUptoCardSaid : Prop := Claim7.holds Tryd.pinned (.plain (OpenSpec.upto fnFieldNameSpec)) fnFieldNameUptoCard

/-- THE SECOND FORM's CARD OF 'laws.FnHost'. -/
def fnHostUptoCard : Claim7 := { stood := { row := fnHostUptoRow, standIns := [], harness := (true, "ba10af748cfa56e3f96bd5cc0583c15a3776f0c5c9474f3df563a0cb4797833b"), looks := false }, kinds := [], alts := [], laidByText := true, laidKinds := [.data], laidTests := true, laidLooks := .later }
def FnHostUptoCardSaid : Prop := Claim7.holds Tryd.pinned (.plain (OpenSpec.upto fnHostSpec)) fnHostUptoCard
end Rows
end Go.Proofs.YtkiopdmnkinphaaDoor
