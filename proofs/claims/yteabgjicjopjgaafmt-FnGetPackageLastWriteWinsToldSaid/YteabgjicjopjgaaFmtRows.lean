/-
  No cell of these rows narrows 'for every input' (looked for: loops, veiled, ifaces, maps, wideKeys, modest, calm, conditions, laid).
  DERIVED. THE GIVEN ROWS OF THIS SEAT. 1 by the template 'for every input the law returns true; each argument reads behind the call as it read before'; 0 by the template 'total and deterministic' (their statements: YteabgjicjopjgaaFmtTotals.lean).
  GIVEN WITH THE SEED: the statements are not yours to turn. If you find one false, say at which input.
  Laid BY PROGRAM, IN A SANDBOX (cutbox-rows.mjs): the forced cells as the released guide's own fill.sh prints them over the translation 4bf060bc70c0d149… (all of the seat's roots in one cut). By AI agents, Wed Nov 11 2026. No macro, syntax, notation, axiom, sorry.
-/
import Derived.Test.YteabgjicjopjgaaFmtChecked
import GoSem.Claim
import GoSem.ClaimJoined
import GoSem.ClaimMapViews
import Derived.JoinedTies
import Derived.KernelRfl
namespace Go.Proofs.YteabgjicjopjgaaFmt
/- THE CELL 'sum', in the pinned program and in every row, IS THE sha256 OF THE DUMP (.gsa) THAT YteabgjicjopjgaaFmtProg.lean LOADS. Nothing in Lean hashes anything: it is a label: what it is worth is what the hold of that sum in a sandbox is worth. -/
noncomputable def Tryf.pinned : Pinned := { name := "yteabgjicjopjgaafmt", sum := "4bf060bc70c0d149cea9ec8e1d3ac550af8c9c9c28c8b8a5017164c0cacc4271", checked := Tryf.checked }
namespace Rows
def none {H : Type} : Left H := { results := [], args := [] }

/-- 'n011_255.FnGetPackageLastWriteWins': WHATEVER THE INPUT: true; the input reads as it did. -/
def fnGetPackageLastWriteWinsSpec : ChangeSpec := { name := "fnGetPackageLastWriteWins", fn := fun _ => fun
  | [d1, d2, d3, d4, d5] => { results := [.lit (.bool true)], args := [d1, d2, d3, d4, d5] }
  | _ => none }
def fnGetPackageLastWriteWinsRow : OpenClaim := { program := "yteabgjicjopjgaafmt", sum := "4bf060bc70c0d149cea9ec8e1d3ac550af8c9c9c28c8b8a5017164c0cacc4271", func := "github.com/evanw/esbuild/n011_255.FnGetPackageLastWriteWins", spec := "fnGetPackageLastWriteWins", stops := ["fmt.Sprintf"], inPlace := ["fmt.Sprintf"], plainKeys := false, apart := false }
/-- NO THEOREM (fmt's text is open here; it may be false): for the released tool's asking of the row's closed facts alone. THE STATEMENT IS 'FnGetPackageLastWriteWinsToldSaid' (YteabgjicjopjgaaFmtCards.lean). -/
def FnGetPackageLastWriteWinsFormAsk : Prop := fnGetPackageLastWriteWinsRow.holds Tryf.pinned (OpenSpec.ofChange fnGetPackageLastWriteWinsSpec)

/-- ITS FALSE NEIGHBOUR: 'it returns false'. Refute it at one input. -/
def fnGetPackageLastWriteWinsWrong : ChangeSpec := { name := "fnGetPackageLastWriteWins", fn := fun _ => fun
  | [d1, d2, d3, d4, d5] => { results := [.lit (.bool false)], args := [d1, d2, d3, d4, d5] }
  | _ => none }
def FnGetPackageLastWriteWinsWrongFormAsk : Prop := fnGetPackageLastWriteWinsRow.holds Tryf.pinned (OpenSpec.ofChange fnGetPackageLastWriteWinsWrong)

end Rows
end Go.Proofs.YteabgjicjopjgaaFmt
