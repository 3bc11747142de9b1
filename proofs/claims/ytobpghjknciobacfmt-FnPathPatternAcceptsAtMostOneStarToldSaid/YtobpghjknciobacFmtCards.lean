/-
  DERIVED. GIVEN WITH THE SEED: THE CARDS: each row of YtobpghjknciobacFmtRows.lean that lists a variable, with what it lists TIED to the program's text (the seventh form; the later family's looks); each row that meets fmt, with fmt's text TOLD by the authors' own Lean function (tested against real Go, not proved from fmt's source: count such statements apart). THE CARD IS WHAT COUNTS. Prove the row's statement (the work); the ties are given (YtobpghjknciobacFmtTie.lean); close each card by the builder's one call (the guide's Derived/Test/ToyasCard.lean, 'card_holds'). Laid BY PROGRAM, IN A SANDBOX (cutbox-door.mjs). By AI agents, Wed Nov 11 2026. No macro, syntax, notation, axiom, sorry.
-/
import Derived.Test.YtobpghjknciobacFmtRows
import GoSem.ClaimSeven
namespace Go.Proofs.YtobpghjknciobacFmt
namespace Rows

/-- THE TOLD AND TIED CARD OF 'n011_22.FnPathPatternAcceptsAtMostOneStar'. -/
def fnPathPatternAcceptsAtMostOneStarCard : Claim7 := { stood := { row := fnPathPatternAcceptsAtMostOneStarRow, standIns := [], harness := (true, "f2697867fe0efff4161ada30034375d8137ed59c3226f9e6e3e268b9589923ba"), looks := false }, told := true, laidByText := true, laidKinds := [.data, .pinned], laidTests := true, laidLooks := .later, goes := false }
def FnPathPatternAcceptsAtMostOneStarToldSaid : Prop := Claim7.holds Tryf.pinned (.plain (OpenSpec.ofChange fnPathPatternAcceptsAtMostOneStarSpec)) fnPathPatternAcceptsAtMostOneStarCard
/-- ITS FALSE NEIGHBOUR. Refute it at one input. -/
def FnPathPatternAcceptsAtMostOneStarToldWrongFalsely : Prop := Claim7.holds Tryf.pinned (.plain (OpenSpec.ofChange fnPathPatternAcceptsAtMostOneStarWrong)) fnPathPatternAcceptsAtMostOneStarCard
end Rows
end Go.Proofs.YtobpghjknciobacFmt
