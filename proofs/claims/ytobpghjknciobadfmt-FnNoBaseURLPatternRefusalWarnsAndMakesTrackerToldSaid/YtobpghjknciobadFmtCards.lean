/-
  DERIVED. GIVEN WITH THE SEED: THE CARDS: each row of YtobpghjknciobadFmtRows.lean that lists a variable, with what it lists TIED to the program's text (the seventh form; the later family's looks); each row that meets fmt, with fmt's text TOLD by the authors' own Lean function (tested against real Go, not proved from fmt's source: count such statements apart). THE CARD IS WHAT COUNTS. Prove the row's statement (the work); the ties are given (YtobpghjknciobadFmtTie.lean); close each card by the builder's one call (the guide's Derived/Test/ToyasCard.lean, 'card_holds'). Laid BY PROGRAM, IN A SANDBOX (cutbox-door.mjs). By AI agents, Wed Nov 11 2026. No macro, syntax, notation, axiom, sorry.
-/
import Derived.Test.YtobpghjknciobadFmtRows
import GoSem.ClaimSeven
namespace Go.Proofs.YtobpghjknciobadFmt
namespace Rows

/-- THE TOLD AND TIED CARD OF 'n011_22.FnNoBaseURLPatternRefusalWarnsAndMakesTracker'. -/
def fnNoBaseURLPatternRefusalWarnsAndMakesTrackerCard : Claim7 := { stood := { row := fnNoBaseURLPatternRefusalWarnsAndMakesTrackerRow, standIns := [], harness := (true, "feb5cc549761f92f801a6fdfebde94d9d54dc1afec5a0f39b78a3c7f686ec2fc"), looks := false }, told := true, laidByText := true, laidKinds := [.data, .pinned], laidTests := true, laidLooks := .later, goes := false }
def FnNoBaseURLPatternRefusalWarnsAndMakesTrackerToldSaid : Prop := Claim7.holds Tryf.pinned (.plain (OpenSpec.ofChange fnNoBaseURLPatternRefusalWarnsAndMakesTrackerSpec)) fnNoBaseURLPatternRefusalWarnsAndMakesTrackerCard
/-- ITS FALSE NEIGHBOUR. Refute it at one input. -/
def FnNoBaseURLPatternRefusalWarnsAndMakesTrackerToldWrongFalsely : Prop := Claim7.holds Tryf.pinned (.plain (OpenSpec.ofChange fnNoBaseURLPatternRefusalWarnsAndMakesTrackerWrong)) fnNoBaseURLPatternRefusalWarnsAndMakesTrackerCard
end Rows
end Go.Proofs.YtobpghjknciobadFmt
