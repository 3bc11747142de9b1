/-
  DERIVED. GIVEN WITH THE SEED: THE CARDS: each row of YtobpghjknciobaeFmtRows.lean that lists a variable, with what it lists TIED to the program's text (the seventh form; the later family's looks); each row that meets fmt, with fmt's text TOLD by the authors' own Lean function (tested against real Go, not proved from fmt's source: count such statements apart). THE CARD IS WHAT COUNTS. Prove the row's statement (the work); the ties are given (YtobpghjknciobaeFmtTie.lean); close each card by the builder's one call (the guide's Derived/Test/ToyasCard.lean, 'card_holds'). Laid BY PROGRAM, IN A SANDBOX (cutbox-door.mjs). By AI agents, Wed Nov 11 2026. No macro, syntax, notation, axiom, sorry.
-/
import Derived.Test.YtobpghjknciobaeFmtRows
import GoSem.ClaimSeven
namespace Go.Proofs.YtobpghjknciobaeFmt
namespace Rows

/-- THE TOLD AND TIED CARD OF 'n011_33.FnLoadersSpec'. -/
def fnLoadersSpecCard : Claim7 := { stood := { row := fnLoadersSpecRow, standIns := [], harness := (true, "382089b325327c7d1b271d478e668b8ffc4087c821b1a71570917ad0a7e86512"), looks := false }, told := true, laidByText := true, laidKinds := [.data, .pinned], laidTests := true, laidLooks := .later, goes := false }
def FnLoadersSpecToldSaid : Prop := Claim7.holds Tryf.pinned (.plain (OpenSpec.ofChange fnLoadersSpecSpec)) fnLoadersSpecCard
/-- ITS FALSE NEIGHBOUR. Refute it at one input. -/
def FnLoadersSpecToldWrongFalsely : Prop := Claim7.holds Tryf.pinned (.plain (OpenSpec.ofChange fnLoadersSpecWrong)) fnLoadersSpecCard
end Rows
end Go.Proofs.YtobpghjknciobaeFmt
