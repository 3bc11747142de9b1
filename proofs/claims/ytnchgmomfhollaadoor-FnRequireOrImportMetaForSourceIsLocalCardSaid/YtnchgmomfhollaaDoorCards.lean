/-
  DERIVED. GIVEN WITH THE SEED: THE CARDS: each row of YtnchgmomfhollaaDoorRows.lean that lists a variable, with what it lists TIED to the program's text (the seventh form; the later family's looks); each row that meets fmt, with fmt's text TOLD by the authors' own Lean function (tested against real Go, not proved from fmt's source: count such statements apart). THE CARD IS WHAT COUNTS. Prove the row's statement (the work); the ties are given (YtnchgmomfhollaaDoorTie.lean); close each card by the builder's one call (the guide's Derived/Test/ToyasCard.lean, 'card_holds'). Laid BY PROGRAM, IN A SANDBOX (cutbox-door.mjs). By AI agents, Wed Nov 11 2026. No macro, syntax, notation, axiom, sorry.
-/
import Derived.Test.YtnchgmomfhollaaDoorRows
import GoSem.ClaimSeven
namespace Go.Proofs.YtnchgmomfhollaaDoor
namespace Rows

/-- THE TIED CARD OF 'n011_171.FnRequireOrImportMetaForSourceIsLocal'. -/
def fnRequireOrImportMetaForSourceIsLocalCard : Claim7 := { stood := { row := fnRequireOrImportMetaForSourceIsLocalRow, standIns := [], harness := (true, "8ea3ff308c6a86280240b7e97a4610f010cbfe6a67f39faeec0a61cb3f7738f3"), looks := true }, kinds := [], alts := [], laidByText := true, laidKinds := [.data], laidTests := true, laidLooks := .later }
def FnRequireOrImportMetaForSourceIsLocalCardSaid : Prop := Claim7.holds Tryd.pinned (.plain (OpenSpec.ofChange fnRequireOrImportMetaForSourceIsLocalSpec)) fnRequireOrImportMetaForSourceIsLocalCard

/-- THE SECOND FORM's CARD OF 'n011_171.FnRequireOrImportMetaForSourceIsLocal'. -/
def fnRequireOrImportMetaForSourceIsLocalUptoCard : Claim7 := { stood := { row := fnRequireOrImportMetaForSourceIsLocalUptoRow, standIns := [], harness := (true, "8ea3ff308c6a86280240b7e97a4610f010cbfe6a67f39faeec0a61cb3f7738f3"), looks := true }, kinds := [], alts := [], laidByText := true, laidKinds := [.data], laidTests := true, laidLooks := .later }
def FnRequireOrImportMetaForSourceIsLocalUptoCardSaid : Prop := Claim7.holds Tryd.pinned (.plain (OpenSpec.upto fnRequireOrImportMetaForSourceIsLocalSpec)) fnRequireOrImportMetaForSourceIsLocalUptoCard
end Rows
end Go.Proofs.YtnchgmomfhollaaDoor
