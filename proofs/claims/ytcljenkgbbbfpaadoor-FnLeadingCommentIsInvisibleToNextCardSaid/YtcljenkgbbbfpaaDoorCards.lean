/-
  DERIVED. GIVEN WITH THE SEED: THE CARDS: each row of YtcljenkgbbbfpaaDoorRows.lean that lists a variable, with what it lists TIED to the program's text (the seventh form; the later family's looks); each row that meets fmt, with fmt's text TOLD by the authors' own Lean function (tested against real Go, not proved from fmt's source: count such statements apart). THE CARD IS WHAT COUNTS. Prove the row's statement (the work); the ties are given (YtcljenkgbbbfpaaDoorTie.lean); close each card by the builder's one call (the guide's Derived/Test/ToyasCard.lean, 'card_holds'). Laid BY PROGRAM, IN A SANDBOX (cutbox-door.mjs). By AI agents, Wed Nov 11 2026. No macro, syntax, notation, axiom, sorry.
-/
import Derived.Test.YtcljenkgbbbfpaaDoorRows
import GoSem.ClaimSeven
namespace Go.Proofs.YtcljenkgbbbfpaaDoor
namespace Rows

/-- THE TIED CARD OF 'n011_170.FnConsumeEscapeAgreesWithTokenDecoder'. -/
def fnConsumeEscapeAgreesWithTokenDecoderCard : Claim7 := { stood := { row := fnConsumeEscapeAgreesWithTokenDecoderRow, standIns := [], harness := (true, "a53272d4726ac736af5b216444f6274867ded2fceb54b4639dbea8b8097dc3c7"), looks := false }, kinds := [], alts := [], laidByText := true, laidKinds := [.data, .pinned], laidTests := true, laidLooks := .later }
def FnConsumeEscapeAgreesWithTokenDecoderCardSaid : Prop := Claim7.holds Tryd.pinned (.plain (OpenSpec.ofChange fnConsumeEscapeAgreesWithTokenDecoderSpec)) fnConsumeEscapeAgreesWithTokenDecoderCard

/-- THE TIED CARD OF 'n011_251.FnDecodeEscapesInvertsHexEscaping'. -/
def fnDecodeEscapesInvertsHexEscapingCard : Claim7 := { stood := { row := fnDecodeEscapesInvertsHexEscapingRow, standIns := [], harness := (true, "a53272d4726ac736af5b216444f6274867ded2fceb54b4639dbea8b8097dc3c7"), looks := false }, kinds := [], alts := [], laidByText := true, laidKinds := [.data, .pinned], laidTests := true, laidLooks := .later }
def FnDecodeEscapesInvertsHexEscapingCardSaid : Prop := Claim7.holds Tryd.pinned (.plain (OpenSpec.ofChange fnDecodeEscapesInvertsHexEscapingSpec)) fnDecodeEscapesInvertsHexEscapingCard

/-- THE TIED CARD OF 'n011_281.FnDecodedTextUndoesEscaping'. -/
def fnDecodedTextUndoesEscapingCard : Claim7 := { stood := { row := fnDecodedTextUndoesEscapingRow, standIns := [], harness := (true, "a53272d4726ac736af5b216444f6274867ded2fceb54b4639dbea8b8097dc3c7"), looks := false }, kinds := [], alts := [], laidByText := true, laidKinds := [.data, .pinned], laidTests := true, laidLooks := .later }
def FnDecodedTextUndoesEscapingCardSaid : Prop := Claim7.holds Tryd.pinned (.plain (OpenSpec.ofChange fnDecodedTextUndoesEscapingSpec)) fnDecodedTextUndoesEscapingCard

/-- THE TIED CARD OF 'n011_281.FnStringQuotesFixedTokenText'. -/
def fnStringQuotesFixedTokenTextCard : Claim7 := { stood := { row := fnStringQuotesFixedTokenTextRow, standIns := [], harness := (true, "a53272d4726ac736af5b216444f6274867ded2fceb54b4639dbea8b8097dc3c7"), looks := false }, kinds := [], alts := [], laidByText := true, laidKinds := [.data, .data, .pinned], laidTests := true, laidLooks := .later }
def FnStringQuotesFixedTokenTextCardSaid : Prop := Claim7.holds Tryd.pinned (.plain (OpenSpec.ofChange fnStringQuotesFixedTokenTextSpec)) fnStringQuotesFixedTokenTextCard

/-- THE TIED CARD OF 'n011_311.FnConsumeURLEndsWell'. -/
def fnConsumeURLEndsWellCard : Claim7 := { stood := { row := fnConsumeURLEndsWellRow, standIns := [], harness := (true, "a53272d4726ac736af5b216444f6274867ded2fceb54b4639dbea8b8097dc3c7"), looks := false }, kinds := [], alts := [], laidByText := true, laidKinds := [.data, .pinned], laidTests := true, laidLooks := .later }
def FnConsumeURLEndsWellCardSaid : Prop := Claim7.holds Tryd.pinned (.plain (OpenSpec.ofChange fnConsumeURLEndsWellSpec)) fnConsumeURLEndsWellCard

/-- THE TIED CARD OF 'n011_111.FnLeadingCommentIsInvisibleToNext'. -/
def fnLeadingCommentIsInvisibleToNextCard : Claim7 := { stood := { row := fnLeadingCommentIsInvisibleToNextRow, standIns := [], harness := (true, "a53272d4726ac736af5b216444f6274867ded2fceb54b4639dbea8b8097dc3c7"), looks := false }, kinds := [], alts := [], laidByText := true, laidKinds := [.data, .pinned], laidTests := true, laidLooks := .later }
def FnLeadingCommentIsInvisibleToNextCardSaid : Prop := Claim7.holds Tryd.pinned (.plain (OpenSpec.ofChange fnLeadingCommentIsInvisibleToNextSpec)) fnLeadingCommentIsInvisibleToNextCard

/-- THE SECOND FORM's CARD OF 'n011_170.FnConsumeEscapeAgreesWithTokenDecoder'. -/
def fnConsumeEscapeAgreesWithTokenDecoderUptoCard : Claim7 := { stood := { row := fnConsumeEscapeAgreesWithTokenDecoderUptoRow, standIns := [], harness := (true, "a53272d4726ac736af5b216444f6274867ded2fceb54b4639dbea8b8097dc3c7"), looks := false }, kinds := [], alts := [], laidByText := true, laidKinds := [.data, .pinned], laidTests := true, laidLooks := .later }
def FnConsumeEscapeAgreesWithTokenDecoderUptoCardSaid : Prop := Claim7.holds Tryd.pinned (.plain (OpenSpec.upto fnConsumeEscapeAgreesWithTokenDecoderSpec)) fnConsumeEscapeAgreesWithTokenDecoderUptoCard

/-- THE SECOND FORM's CARD OF 'n011_251.FnDecodeEscapesInvertsHexEscaping'. -/
def fnDecodeEscapesInvertsHexEscapingUptoCard : Claim7 := { stood := { row := fnDecodeEscapesInvertsHexEscapingUptoRow, standIns := [], harness := (true, "a53272d4726ac736af5b216444f6274867ded2fceb54b4639dbea8b8097dc3c7"), looks := false }, kinds := [], alts := [], laidByText := true, laidKinds := [.data, .pinned], laidTests := true, laidLooks := .later }
def FnDecodeEscapesInvertsHexEscapingUptoCardSaid : Prop := Claim7.holds Tryd.pinned (.plain (OpenSpec.upto fnDecodeEscapesInvertsHexEscapingSpec)) fnDecodeEscapesInvertsHexEscapingUptoCard

/-- THE SECOND FORM's CARD OF 'n011_281.FnDecodedTextUndoesEscaping'. -/
def fnDecodedTextUndoesEscapingUptoCard : Claim7 := { stood := { row := fnDecodedTextUndoesEscapingUptoRow, standIns := [], harness := (true, "a53272d4726ac736af5b216444f6274867ded2fceb54b4639dbea8b8097dc3c7"), looks := false }, kinds := [], alts := [], laidByText := true, laidKinds := [.data, .pinned], laidTests := true, laidLooks := .later }
def FnDecodedTextUndoesEscapingUptoCardSaid : Prop := Claim7.holds Tryd.pinned (.plain (OpenSpec.upto fnDecodedTextUndoesEscapingSpec)) fnDecodedTextUndoesEscapingUptoCard

/-- THE SECOND FORM's CARD OF 'n011_281.FnStringQuotesFixedTokenText'. -/
def fnStringQuotesFixedTokenTextUptoCard : Claim7 := { stood := { row := fnStringQuotesFixedTokenTextUptoRow, standIns := [], harness := (true, "a53272d4726ac736af5b216444f6274867ded2fceb54b4639dbea8b8097dc3c7"), looks := false }, kinds := [], alts := [], laidByText := true, laidKinds := [.data, .data, .pinned], laidTests := true, laidLooks := .later }
def FnStringQuotesFixedTokenTextUptoCardSaid : Prop := Claim7.holds Tryd.pinned (.plain (OpenSpec.upto fnStringQuotesFixedTokenTextSpec)) fnStringQuotesFixedTokenTextUptoCard

/-- THE SECOND FORM's CARD OF 'n011_311.FnConsumeURLEndsWell'. -/
def fnConsumeURLEndsWellUptoCard : Claim7 := { stood := { row := fnConsumeURLEndsWellUptoRow, standIns := [], harness := (true, "a53272d4726ac736af5b216444f6274867ded2fceb54b4639dbea8b8097dc3c7"), looks := false }, kinds := [], alts := [], laidByText := true, laidKinds := [.data, .pinned], laidTests := true, laidLooks := .later }
def FnConsumeURLEndsWellUptoCardSaid : Prop := Claim7.holds Tryd.pinned (.plain (OpenSpec.upto fnConsumeURLEndsWellSpec)) fnConsumeURLEndsWellUptoCard

/-- THE SECOND FORM's CARD OF 'n011_111.FnLeadingCommentIsInvisibleToNext'. -/
def fnLeadingCommentIsInvisibleToNextUptoCard : Claim7 := { stood := { row := fnLeadingCommentIsInvisibleToNextUptoRow, standIns := [], harness := (true, "a53272d4726ac736af5b216444f6274867ded2fceb54b4639dbea8b8097dc3c7"), looks := false }, kinds := [], alts := [], laidByText := true, laidKinds := [.data, .pinned], laidTests := true, laidLooks := .later }
def FnLeadingCommentIsInvisibleToNextUptoCardSaid : Prop := Claim7.holds Tryd.pinned (.plain (OpenSpec.upto fnLeadingCommentIsInvisibleToNextSpec)) fnLeadingCommentIsInvisibleToNextUptoCard
end Rows
end Go.Proofs.YtcljenkgbbbfpaaDoor
