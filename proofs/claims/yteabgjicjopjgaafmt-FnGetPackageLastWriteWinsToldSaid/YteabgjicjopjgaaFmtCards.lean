/-
  DERIVED. GIVEN WITH THE SEED: THE CARDS: each row of YteabgjicjopjgaaFmtRows.lean that lists a variable, with what it lists TIED to the program's text (the seventh form; the later family's looks); each row that meets fmt, with fmt's text TOLD by the authors' own Lean function (tested against real Go, not proved from fmt's source: count such statements apart). THE CARD IS WHAT COUNTS. Prove the row's statement (the work); the ties are given (YteabgjicjopjgaaFmtTie.lean); close each card by the builder's one call (the guide's Derived/Test/ToyasCard.lean, 'card_holds'). Laid BY PROGRAM, IN A SANDBOX (cutbox-door.mjs). By AI agents, Wed Nov 11 2026. No macro, syntax, notation, axiom, sorry.
-/
import Derived.Test.YteabgjicjopjgaaFmtRows
import GoSem.ClaimSeven
namespace Go.Proofs.YteabgjicjopjgaaFmt
namespace Rows

/-- THE TOLD CARD OF 'n011_255.FnGetPackageLastWriteWins'. -/
def fnGetPackageLastWriteWinsCard : Claim7 := { stood := { row := fnGetPackageLastWriteWinsRow, standIns := [], harness := (true, "e697a8ff9230295d9985c9361c99ef847d6686566a5398fab5c365a0f5a6760b"), looks := false }, told := true, goes := false }
def FnGetPackageLastWriteWinsToldSaid : Prop := Claim7.holds Tryf.pinned (.plain (OpenSpec.ofChange fnGetPackageLastWriteWinsSpec)) fnGetPackageLastWriteWinsCard
/-- ITS FALSE NEIGHBOUR. Refute it at one input. -/
def FnGetPackageLastWriteWinsToldWrongFalsely : Prop := Claim7.holds Tryf.pinned (.plain (OpenSpec.ofChange fnGetPackageLastWriteWinsWrong)) fnGetPackageLastWriteWinsCard
end Rows
end Go.Proofs.YteabgjicjopjgaaFmt
