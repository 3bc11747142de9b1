/-
  DERIVED. GIVEN WITH THE SEED: THE CARDS: each row of YtojihophipgljaaDoorRows.lean that lists a variable, with what it lists TIED to the program's text (the seventh form; the later family's looks); each row that meets fmt, with fmt's text TOLD by the authors' own Lean function (tested against real Go, not proved from fmt's source: count such statements apart). THE CARD IS WHAT COUNTS. Prove the row's statement (the work); the ties are given (YtojihophipgljaaDoorTie.lean); close each card by the builder's one call (the guide's Derived/Test/ToyasCard.lean, 'card_holds'). Laid BY PROGRAM, IN A SANDBOX (cutbox-door.mjs). By AI agents, Wed Nov 11 2026. No macro, syntax, notation, axiom, sorry.
-/
import Derived.Test.YtojihophipgljaaDoorRows
import GoSem.ClaimSeven
namespace Go.Proofs.YtojihophipgljaaDoor
namespace Rows

/-- THE TIED CARD OF 'n011_187.FnWouldStartIdentifierWithoutEscapesCaseTable'. -/
def fnWouldStartIdentifierWithoutEscapesCaseTableCard : Claim7 := { stood := { row := fnWouldStartIdentifierWithoutEscapesCaseTableRow, standIns := [], harness := (true, "4f8b2896dbd23ad723140da42a4bf0d1b61d39bae823fcebb2b63c4403630ae7"), looks := false }, kinds := [], alts := [], laidByText := true, laidKinds := [.data, .pinned], laidTests := true, laidLooks := .later }
def FnWouldStartIdentifierWithoutEscapesCaseTableCardSaid : Prop := Claim7.holds Tryd.pinned (.plain (OpenSpec.ofChange fnWouldStartIdentifierWithoutEscapesCaseTableSpec)) fnWouldStartIdentifierWithoutEscapesCaseTableCard

/-- THE TIED CARD OF 'n011_170.FnWouldStartNumberMatchesGrammar'. -/
def fnWouldStartNumberMatchesGrammarCard : Claim7 := { stood := { row := fnWouldStartNumberMatchesGrammarRow, standIns := [], harness := (true, "4f8b2896dbd23ad723140da42a4bf0d1b61d39bae823fcebb2b63c4403630ae7"), looks := false }, kinds := [], alts := [], laidByText := true, laidKinds := [.data, .pinned], laidTests := true, laidLooks := .later }
def FnWouldStartNumberMatchesGrammarCardSaid : Prop := Claim7.holds Tryd.pinned (.plain (OpenSpec.ofChange fnWouldStartNumberMatchesGrammarSpec)) fnWouldStartNumberMatchesGrammarCard

/-- THE TIED CARD OF 'n011_111.FnStepReencodesToTheSource'. -/
def fnStepReencodesToTheSourceCard : Claim7 := { stood := { row := fnStepReencodesToTheSourceRow, standIns := [], harness := (true, "4f8b2896dbd23ad723140da42a4bf0d1b61d39bae823fcebb2b63c4403630ae7"), looks := false }, kinds := [], alts := [], laidByText := true, laidKinds := [.data, .pinned], laidTests := true, laidLooks := .later }
def FnStepReencodesToTheSourceCardSaid : Prop := Claim7.holds Tryd.pinned (.plain (OpenSpec.ofChange fnStepReencodesToTheSourceSpec)) fnStepReencodesToTheSourceCard

/-- THE SECOND FORM's CARD OF 'n011_187.FnWouldStartIdentifierWithoutEscapesCaseTable'. -/
def fnWouldStartIdentifierWithoutEscapesCaseTableUptoCard : Claim7 := { stood := { row := fnWouldStartIdentifierWithoutEscapesCaseTableUptoRow, standIns := [], harness := (true, "4f8b2896dbd23ad723140da42a4bf0d1b61d39bae823fcebb2b63c4403630ae7"), looks := false }, kinds := [], alts := [], laidByText := true, laidKinds := [.data, .pinned], laidTests := true, laidLooks := .later }
def FnWouldStartIdentifierWithoutEscapesCaseTableUptoCardSaid : Prop := Claim7.holds Tryd.pinned (.plain (OpenSpec.upto fnWouldStartIdentifierWithoutEscapesCaseTableSpec)) fnWouldStartIdentifierWithoutEscapesCaseTableUptoCard

/-- THE SECOND FORM's CARD OF 'n011_170.FnWouldStartNumberMatchesGrammar'. -/
def fnWouldStartNumberMatchesGrammarUptoCard : Claim7 := { stood := { row := fnWouldStartNumberMatchesGrammarUptoRow, standIns := [], harness := (true, "4f8b2896dbd23ad723140da42a4bf0d1b61d39bae823fcebb2b63c4403630ae7"), looks := false }, kinds := [], alts := [], laidByText := true, laidKinds := [.data, .pinned], laidTests := true, laidLooks := .later }
def FnWouldStartNumberMatchesGrammarUptoCardSaid : Prop := Claim7.holds Tryd.pinned (.plain (OpenSpec.upto fnWouldStartNumberMatchesGrammarSpec)) fnWouldStartNumberMatchesGrammarUptoCard

/-- THE SECOND FORM's CARD OF 'n011_111.FnStepReencodesToTheSource'. -/
def fnStepReencodesToTheSourceUptoCard : Claim7 := { stood := { row := fnStepReencodesToTheSourceUptoRow, standIns := [], harness := (true, "4f8b2896dbd23ad723140da42a4bf0d1b61d39bae823fcebb2b63c4403630ae7"), looks := false }, kinds := [], alts := [], laidByText := true, laidKinds := [.data, .pinned], laidTests := true, laidLooks := .later }
def FnStepReencodesToTheSourceUptoCardSaid : Prop := Claim7.holds Tryd.pinned (.plain (OpenSpec.upto fnStepReencodesToTheSourceSpec)) fnStepReencodesToTheSourceUptoCard
end Rows
end Go.Proofs.YtojihophipgljaaDoor
