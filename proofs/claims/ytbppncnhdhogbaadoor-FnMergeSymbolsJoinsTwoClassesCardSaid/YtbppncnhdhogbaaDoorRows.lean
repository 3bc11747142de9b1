/-
  NARROWER THAN 'FOR EVERY INPUT', by the rows' own cells (each row's printed sentence says how): FnMergeSymbolsJoinsTwoClasses: laid · FnFollowSymbolsFindsChainEnd: laid.
  DERIVED. THE GIVEN ROWS OF THIS SEAT. 2 by the template 'for every input the law returns true; each argument reads behind the call as it read before'; 0 by the template 'total and deterministic' (their statements: YtbppncnhdhogbaaDoorTotals.lean).
  GIVEN WITH THE SEED: the statements are not yours to turn. If you find one false, say at which input.
  Laid BY PROGRAM, IN A SANDBOX (cutbox-rows.mjs): the forced cells as the released guide's own fill.sh prints them over the translation aca5fa755235cf8c… (all of the seat's roots in one cut). By AI agents, Wed Nov 11 2026. No macro, syntax, notation, axiom, sorry.
-/
import Derived.Test.YtbppncnhdhogbaaDoorChecked
import GoSem.Claim
import GoSem.ClaimJoined
import GoSem.ClaimMapViews
import Derived.JoinedTies
import Derived.KernelRfl
namespace Go.Proofs.YtbppncnhdhogbaaDoor
/- THE CELL 'sum', in the pinned program and in every row, IS THE sha256 OF THE DUMP (.gsa) THAT YtbppncnhdhogbaaDoorProg.lean LOADS. Nothing in Lean hashes anything: it is a label: what it is worth is what the hold of that sum in a sandbox is worth. -/
noncomputable def Tryd.pinned : Pinned := { name := "ytbppncnhdhogbaadoor", sum := "aca5fa755235cf8c174ec13a4283ceb5825465d27bc1d19861227e1eca4cd8ac", checked := Tryd.checked }
namespace Rows
def none {H : Type} : Left H := { results := [], args := [] }

/- WHAT THE LISTED PACKAGE-LEVEL VARIABLES READ AS WHEN THE CALL BEGINS. Each datum BY PROGRAM (the guide's laid-datum.mjs) off the statement by which the dump's own 'gosem.cut.vars' lays the variable. In a bare row this is a premise. The card (YtbppncnhdhogbaaDoorCards.lean) ties it to the program's text. -/
def laid_github_com_evanw_esbuild_internal_ast_InvalidRef {H : Type} : DataW H := .agg [.lit (.int .u32 4294967295), .lit (.int .u32 4294967295)]

/-- 'n011_236.FnMergeSymbolsJoinsTwoClasses': WHATEVER THE INPUT: true; the input reads as it did. -/
def fnMergeSymbolsJoinsTwoClassesSpec : ChangeSpec := { name := "fnMergeSymbolsJoinsTwoClasses", vars := ["github.com/evanw/esbuild/internal/ast.InvalidRef"], fn := fun _ => fun
  | [d1, d2, d3, d4, d5, d6, g1] => { results := [.lit (.bool true)], args := [d1, d2, d3, d4, d5, d6], vars := [g1] }
  | _ => none }
def fnMergeSymbolsJoinsTwoClassesRow : OpenClaim := { program := "ytbppncnhdhogbaadoor", sum := "aca5fa755235cf8c174ec13a4283ceb5825465d27bc1d19861227e1eca4cd8ac", func := "github.com/evanw/esbuild/n011_236.FnMergeSymbolsJoinsTwoClasses", spec := "fnMergeSymbolsJoinsTwoClasses", recurses := true, named := ["github.com/evanw/esbuild/internal/ast.InvalidRef"], apart := false, laid := [("github.com/evanw/esbuild/internal/ast.InvalidRef", laid_github_com_evanw_esbuild_internal_ast_InvalidRef)] }
def FnMergeSymbolsJoinsTwoClassesSaid : Prop := fnMergeSymbolsJoinsTwoClassesRow.holds Tryd.pinned (OpenSpec.ofChange fnMergeSymbolsJoinsTwoClassesSpec)

/-- ITS FALSE NEIGHBOUR: 'it returns false'. Refute it at one input. -/
def fnMergeSymbolsJoinsTwoClassesWrong : ChangeSpec := { name := "fnMergeSymbolsJoinsTwoClasses", vars := ["github.com/evanw/esbuild/internal/ast.InvalidRef"], fn := fun _ => fun
  | [d1, d2, d3, d4, d5, d6, g1] => { results := [.lit (.bool false)], args := [d1, d2, d3, d4, d5, d6], vars := [g1] }
  | _ => none }
def FnMergeSymbolsJoinsTwoClassesWrongFalsely : Prop := fnMergeSymbolsJoinsTwoClassesRow.holds Tryd.pinned (OpenSpec.ofChange fnMergeSymbolsJoinsTwoClassesWrong)

/-- 'n011_236.FnFollowSymbolsFindsChainEnd': WHATEVER THE INPUT: true; the input reads as it did. -/
def fnFollowSymbolsFindsChainEndSpec : ChangeSpec := { name := "fnFollowSymbolsFindsChainEnd", vars := ["github.com/evanw/esbuild/internal/ast.InvalidRef"], fn := fun _ => fun
  | [d1, d2, g1] => { results := [.lit (.bool true)], args := [d1, d2], vars := [g1] }
  | _ => none }
def fnFollowSymbolsFindsChainEndRow : OpenClaim := { program := "ytbppncnhdhogbaadoor", sum := "aca5fa755235cf8c174ec13a4283ceb5825465d27bc1d19861227e1eca4cd8ac", func := "github.com/evanw/esbuild/n011_236.FnFollowSymbolsFindsChainEnd", spec := "fnFollowSymbolsFindsChainEnd", recurses := true, named := ["github.com/evanw/esbuild/internal/ast.InvalidRef"], apart := false, laid := [("github.com/evanw/esbuild/internal/ast.InvalidRef", laid_github_com_evanw_esbuild_internal_ast_InvalidRef)] }
def FnFollowSymbolsFindsChainEndSaid : Prop := fnFollowSymbolsFindsChainEndRow.holds Tryd.pinned (OpenSpec.ofChange fnFollowSymbolsFindsChainEndSpec)

/-- ITS FALSE NEIGHBOUR: 'it returns false'. Refute it at one input. -/
def fnFollowSymbolsFindsChainEndWrong : ChangeSpec := { name := "fnFollowSymbolsFindsChainEnd", vars := ["github.com/evanw/esbuild/internal/ast.InvalidRef"], fn := fun _ => fun
  | [d1, d2, g1] => { results := [.lit (.bool false)], args := [d1, d2], vars := [g1] }
  | _ => none }
def FnFollowSymbolsFindsChainEndWrongFalsely : Prop := fnFollowSymbolsFindsChainEndRow.holds Tryd.pinned (OpenSpec.ofChange fnFollowSymbolsFindsChainEndWrong)

/- THE SECOND FORM. 'bulk': how many values and letters a reading holds, each counted each time it is reached (what is shared counts as often as it is met; a slice's spare places count too). A statement '..UptoSaid' is the law's where the arguments, and the package variables that the reading takes, are together of bulk at most 1048576: NARROWER than '..Said'. Prove '..Said' where nothing that the law and all that it calls make is longer than what came in: it says more and counts as full. Else prove '..UptoSaid'. A law counts once. -/
mutual
def uptoBulk {H : Type} : DataW H → Nat
  | .lit (.string bytes) => bytes.length + 1
  | .lit _ => 1
  | .nil => 1
  | .ptr d => uptoBulk d + 1
  | .slice elems spare => uptoBulkAll elems + uptoBulkAll spare + 1
  | .agg parts => uptoBulkAll parts + 1
  | .iface _ d => uptoBulk d + 1
  | .map entries => uptoBulkEntries entries + 1
  | .held _ => 1
def uptoBulkAll {H : Type} : List (DataW H) → Nat
  | [] => 0
  | d :: r => uptoBulk d + uptoBulkAll r
def uptoBulkEntries {H : Type} : List (Lit × DataW H) → Nat
  | [] => 0
  | x :: r => uptoBulkEntry x + uptoBulkEntries r
def uptoBulkEntry {H : Type} : Lit × DataW H → Nat
  | (.string bytes, d) => bytes.length + uptoBulk d + 1
  | (_, d) => uptoBulk d + 1
 end
def uptoSmall : (H : Type) → List (DataW H) → Bool := fun _ ds => decide (uptoBulkAll ds ≤ 1048576)
def OpenSpec.upto (s : _root_.Go.ChangeSpec) : _root_.Go.OpenSpec := { _root_.Go.OpenSpec.ofChange s with cond := some uptoSmall }

/-- 'n011_236.FnMergeSymbolsJoinsTwoClasses', WHERE WHAT IT READS IS OF BULK AT MOST 1048576: true; the input reads as it did. -/
def fnMergeSymbolsJoinsTwoClassesUptoRow : OpenClaim := { program := "ytbppncnhdhogbaadoor", sum := "aca5fa755235cf8c174ec13a4283ceb5825465d27bc1d19861227e1eca4cd8ac", func := "github.com/evanw/esbuild/n011_236.FnMergeSymbolsJoinsTwoClasses", spec := "fnMergeSymbolsJoinsTwoClasses", recurses := true, named := ["github.com/evanw/esbuild/internal/ast.InvalidRef"], apart := false, laid := [("github.com/evanw/esbuild/internal/ast.InvalidRef", laid_github_com_evanw_esbuild_internal_ast_InvalidRef)], narrowed := true }
def FnMergeSymbolsJoinsTwoClassesUptoSaid : Prop := fnMergeSymbolsJoinsTwoClassesUptoRow.holds Tryd.pinned (OpenSpec.upto fnMergeSymbolsJoinsTwoClassesSpec)

/-- 'n011_236.FnFollowSymbolsFindsChainEnd', WHERE WHAT IT READS IS OF BULK AT MOST 1048576: true; the input reads as it did. -/
def fnFollowSymbolsFindsChainEndUptoRow : OpenClaim := { program := "ytbppncnhdhogbaadoor", sum := "aca5fa755235cf8c174ec13a4283ceb5825465d27bc1d19861227e1eca4cd8ac", func := "github.com/evanw/esbuild/n011_236.FnFollowSymbolsFindsChainEnd", spec := "fnFollowSymbolsFindsChainEnd", recurses := true, named := ["github.com/evanw/esbuild/internal/ast.InvalidRef"], apart := false, laid := [("github.com/evanw/esbuild/internal/ast.InvalidRef", laid_github_com_evanw_esbuild_internal_ast_InvalidRef)], narrowed := true }
def FnFollowSymbolsFindsChainEndUptoSaid : Prop := fnFollowSymbolsFindsChainEndUptoRow.holds Tryd.pinned (OpenSpec.upto fnFollowSymbolsFindsChainEndSpec)

end Rows
end Go.Proofs.YtbppncnhdhogbaaDoor
