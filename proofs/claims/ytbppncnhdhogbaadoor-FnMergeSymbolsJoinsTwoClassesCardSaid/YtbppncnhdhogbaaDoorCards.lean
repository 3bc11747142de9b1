/-
  DERIVED. GIVEN WITH THE SEED: THE CARDS: each row of YtbppncnhdhogbaaDoorRows.lean that lists a variable, with what it lists TIED to the program's text (the seventh form; the later family's looks); each row that meets fmt, with fmt's text TOLD by the authors' own Lean function (tested against real Go, not proved from fmt's source: count such statements apart). THE CARD IS WHAT COUNTS. Prove the row's statement (the work); the ties are given (YtbppncnhdhogbaaDoorTie.lean); close each card by the builder's one call (the guide's Derived/Test/ToyasCard.lean, 'card_holds'). Laid BY PROGRAM, IN A SANDBOX (cutbox-door.mjs). By AI agents, Wed Nov 11 2026. No macro, syntax, notation, axiom, sorry.
-/
import Derived.Test.YtbppncnhdhogbaaDoorRows
import GoSem.ClaimSeven
namespace Go.Proofs.YtbppncnhdhogbaaDoor
namespace Rows

/-- THE TIED CARD OF 'n011_236.FnMergeSymbolsJoinsTwoClasses'. -/
def fnMergeSymbolsJoinsTwoClassesCard : Claim7 := { stood := { row := fnMergeSymbolsJoinsTwoClassesRow, standIns := [], harness := (true, "b5875a48fc8305fba16b201ca3d7ffba2953b482a335dad908788ca0b8128296"), looks := false }, kinds := [], alts := [], laidByText := true, laidKinds := [.data], laidTests := true, laidLooks := .later }
def FnMergeSymbolsJoinsTwoClassesCardSaid : Prop := Claim7.holds Tryd.pinned (.plain (OpenSpec.ofChange fnMergeSymbolsJoinsTwoClassesSpec)) fnMergeSymbolsJoinsTwoClassesCard

/-- THE TIED CARD OF 'n011_236.FnFollowSymbolsFindsChainEnd'. -/
def fnFollowSymbolsFindsChainEndCard : Claim7 := { stood := { row := fnFollowSymbolsFindsChainEndRow, standIns := [], harness := (true, "b5875a48fc8305fba16b201ca3d7ffba2953b482a335dad908788ca0b8128296"), looks := false }, kinds := [], alts := [], laidByText := true, laidKinds := [.data], laidTests := true, laidLooks := .later }
def FnFollowSymbolsFindsChainEndCardSaid : Prop := Claim7.holds Tryd.pinned (.plain (OpenSpec.ofChange fnFollowSymbolsFindsChainEndSpec)) fnFollowSymbolsFindsChainEndCard

/-- THE SECOND FORM's CARD OF 'n011_236.FnMergeSymbolsJoinsTwoClasses'. -/
def fnMergeSymbolsJoinsTwoClassesUptoCard : Claim7 := { stood := { row := fnMergeSymbolsJoinsTwoClassesUptoRow, standIns := [], harness := (true, "b5875a48fc8305fba16b201ca3d7ffba2953b482a335dad908788ca0b8128296"), looks := false }, kinds := [], alts := [], laidByText := true, laidKinds := [.data], laidTests := true, laidLooks := .later }
def FnMergeSymbolsJoinsTwoClassesUptoCardSaid : Prop := Claim7.holds Tryd.pinned (.plain (OpenSpec.upto fnMergeSymbolsJoinsTwoClassesSpec)) fnMergeSymbolsJoinsTwoClassesUptoCard

/-- THE SECOND FORM's CARD OF 'n011_236.FnFollowSymbolsFindsChainEnd'. -/
def fnFollowSymbolsFindsChainEndUptoCard : Claim7 := { stood := { row := fnFollowSymbolsFindsChainEndUptoRow, standIns := [], harness := (true, "b5875a48fc8305fba16b201ca3d7ffba2953b482a335dad908788ca0b8128296"), looks := false }, kinds := [], alts := [], laidByText := true, laidKinds := [.data], laidTests := true, laidLooks := .later }
def FnFollowSymbolsFindsChainEndUptoCardSaid : Prop := Claim7.holds Tryd.pinned (.plain (OpenSpec.upto fnFollowSymbolsFindsChainEndSpec)) fnFollowSymbolsFindsChainEndUptoCard
end Rows
end Go.Proofs.YtbppncnhdhogbaaDoor
