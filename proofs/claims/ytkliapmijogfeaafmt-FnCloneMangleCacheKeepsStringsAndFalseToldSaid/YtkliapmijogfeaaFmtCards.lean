/-
  DERIVED. GIVEN WITH THE SEED: THE CARDS: each row of YtkliapmijogfeaaFmtRows.lean that lists a variable, with what it lists TIED to the program's text (the seventh form; the later family's looks); each row that meets fmt, with fmt's text TOLD by the authors' own Lean function (tested against real Go, not proved from fmt's source: count such statements apart). THE CARD IS WHAT COUNTS. Prove the row's statement (the work); the ties are given (YtkliapmijogfeaaFmtTie.lean); close each card by the builder's one call (the guide's Derived/Test/ToyasCard.lean, 'card_holds'). Laid BY PROGRAM, IN A SANDBOX (cutbox-door.mjs). By AI agents, Wed Nov 11 2026. No macro, syntax, notation, axiom, sorry.
-/
import Derived.Test.YtkliapmijogfeaaFmtRows
import GoSem.ClaimSeven
namespace Go.Proofs.YtkliapmijogfeaaFmt
namespace Rows

/-- THE TOLD AND TIED CARD OF 'n011_238.FnCloneMangleCacheKeepsStringsAndFalse'. -/
def fnCloneMangleCacheKeepsStringsAndFalseCard : Claim7 := { stood := { row := fnCloneMangleCacheKeepsStringsAndFalseRow, standIns := [], harness := (true, "9efa9aed66eb27a5def6412971990755033d62f8fbdef5d6b40872311a9ec3be"), looks := true }, told := true, laidByText := true, laidKinds := [.data, .pinned], laidTests := true, laidLooks := .later, goes := false }
def FnCloneMangleCacheKeepsStringsAndFalseToldSaid : Prop := Claim7.holds Tryf.pinned (.plain (OpenSpec.ofChange fnCloneMangleCacheKeepsStringsAndFalseSpec)) fnCloneMangleCacheKeepsStringsAndFalseCard
/-- ITS FALSE NEIGHBOUR. Refute it at one input. -/
def FnCloneMangleCacheKeepsStringsAndFalseToldWrongFalsely : Prop := Claim7.holds Tryf.pinned (.plain (OpenSpec.ofChange fnCloneMangleCacheKeepsStringsAndFalseWrong)) fnCloneMangleCacheKeepsStringsAndFalseCard
end Rows
end Go.Proofs.YtkliapmijogfeaaFmt
