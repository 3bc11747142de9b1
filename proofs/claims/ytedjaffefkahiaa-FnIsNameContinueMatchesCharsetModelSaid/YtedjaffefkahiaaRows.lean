/-
  No cell of these rows narrows 'for every input' (looked for: loops, veiled, ifaces, maps, wideKeys, modest, calm, conditions, laid).
  DERIVED. THE GIVEN ROWS OF THIS SEAT. 6 by the template 'for every input the law returns true; each argument reads behind the call as it read before'; 0 by the template 'total and deterministic' (their statements: YtedjaffefkahiaaTotals.lean).
  GIVEN WITH THE SEED: the statements are not yours to turn. If you find one false, say at which input.
  Laid BY PROGRAM, IN A SANDBOX (cutbox-rows.mjs): the forced cells as the released guide's own fill.sh prints them over the translation 179e6edc5b7627ce… (all of the seat's roots in one cut). By AI agents, Wed Nov 11 2026. No macro, syntax, notation, axiom, sorry.
-/
import Derived.Test.YtedjaffefkahiaaChecked
import GoSem.Claim
import GoSem.ClaimJoined
import GoSem.ClaimMapViews
import Derived.JoinedTies
import Derived.KernelRfl
namespace Go.Proofs.Ytedjaffefkahiaa
/- THE CELL 'sum', in the pinned program and in every row, IS THE sha256 OF THE DUMP (.gsa) THAT YtedjaffefkahiaaProg.lean LOADS. Nothing in Lean hashes anything: it is a label: what it is worth is what the hold of that sum in a sandbox is worth. -/
noncomputable def Try.pinned : Pinned := { name := "ytedjaffefkahiaa", sum := "179e6edc5b7627ce0848c997a31552b9a5e73dec3262ca0393fd5a81cebaf7a4", checked := Try.checked }
namespace Rows
def none {H : Type} : Left H := { results := [], args := [] }

/-- 'n011_288.FnIndex32RoundTripMakeGet': WHATEVER THE INPUT: true; the input reads as it did. -/
def fnIndex32RoundTripMakeGetSpec : ChangeSpec := { name := "fnIndex32RoundTripMakeGet", fn := fun _ => fun
  | [d] => { results := [.lit (.bool true)], args := [d] }
  | _ => none }
def fnIndex32RoundTripMakeGetRow : OpenClaim := { program := "ytedjaffefkahiaa", sum := "179e6edc5b7627ce0848c997a31552b9a5e73dec3262ca0393fd5a81cebaf7a4", func := "github.com/evanw/esbuild/n011_288.FnIndex32RoundTripMakeGet", spec := "fnIndex32RoundTripMakeGet", apart := false }
def FnIndex32RoundTripMakeGetSaid : Prop := fnIndex32RoundTripMakeGetRow.holds Try.pinned (OpenSpec.ofChange fnIndex32RoundTripMakeGetSpec)

/-- ITS FALSE NEIGHBOUR: 'it returns false'. Refute it at one input. -/
def fnIndex32RoundTripMakeGetWrong : ChangeSpec := { name := "fnIndex32RoundTripMakeGet", fn := fun _ => fun
  | [d] => { results := [.lit (.bool false)], args := [d] }
  | _ => none }
def FnIndex32RoundTripMakeGetWrongFalsely : Prop := fnIndex32RoundTripMakeGetRow.holds Try.pinned (OpenSpec.ofChange fnIndex32RoundTripMakeGetWrong)

/-- 'n011_50.FnIsNameContinueMatchesCharsetModel': WHATEVER THE INPUT: true; the input reads as it did. -/
def fnIsNameContinueMatchesCharsetModelSpec : ChangeSpec := { name := "fnIsNameContinueMatchesCharsetModel", fn := fun _ => fun
  | [d] => { results := [.lit (.bool true)], args := [d] }
  | _ => none }
def fnIsNameContinueMatchesCharsetModelRow : OpenClaim := { program := "ytedjaffefkahiaa", sum := "179e6edc5b7627ce0848c997a31552b9a5e73dec3262ca0393fd5a81cebaf7a4", func := "github.com/evanw/esbuild/n011_50.FnIsNameContinueMatchesCharsetModel", spec := "fnIsNameContinueMatchesCharsetModel", apart := false }
def FnIsNameContinueMatchesCharsetModelSaid : Prop := fnIsNameContinueMatchesCharsetModelRow.holds Try.pinned (OpenSpec.ofChange fnIsNameContinueMatchesCharsetModelSpec)

/-- ITS FALSE NEIGHBOUR: 'it returns false'. Refute it at one input. -/
def fnIsNameContinueMatchesCharsetModelWrong : ChangeSpec := { name := "fnIsNameContinueMatchesCharsetModel", fn := fun _ => fun
  | [d] => { results := [.lit (.bool false)], args := [d] }
  | _ => none }
def FnIsNameContinueMatchesCharsetModelWrongFalsely : Prop := fnIsNameContinueMatchesCharsetModelRow.holds Try.pinned (OpenSpec.ofChange fnIsNameContinueMatchesCharsetModelWrong)

/-- 'n011_50.FnIsWhitespaceBitmaskModel': WHATEVER THE INPUT: true; the input reads as it did. -/
def fnIsWhitespaceBitmaskModelSpec : ChangeSpec := { name := "fnIsWhitespaceBitmaskModel", fn := fun _ => fun
  | [d] => { results := [.lit (.bool true)], args := [d] }
  | _ => none }
def fnIsWhitespaceBitmaskModelRow : OpenClaim := { program := "ytedjaffefkahiaa", sum := "179e6edc5b7627ce0848c997a31552b9a5e73dec3262ca0393fd5a81cebaf7a4", func := "github.com/evanw/esbuild/n011_50.FnIsWhitespaceBitmaskModel", spec := "fnIsWhitespaceBitmaskModel", apart := false }
def FnIsWhitespaceBitmaskModelSaid : Prop := fnIsWhitespaceBitmaskModelRow.holds Try.pinned (OpenSpec.ofChange fnIsWhitespaceBitmaskModelSpec)

/-- ITS FALSE NEIGHBOUR: 'it returns false'. Refute it at one input. -/
def fnIsWhitespaceBitmaskModelWrong : ChangeSpec := { name := "fnIsWhitespaceBitmaskModel", fn := fun _ => fun
  | [d] => { results := [.lit (.bool false)], args := [d] }
  | _ => none }
def FnIsWhitespaceBitmaskModelWrongFalsely : Prop := fnIsWhitespaceBitmaskModelRow.holds Try.pinned (OpenSpec.ofChange fnIsWhitespaceBitmaskModelWrong)

/-- 'n011_288.FnIndex32ValidIffNotZeroValue': WHATEVER THE INPUT: true; the input reads as it did. -/
def fnIndex32ValidIffNotZeroValueSpec : ChangeSpec := { name := "fnIndex32ValidIffNotZeroValue", fn := fun _ => fun
  | [d] => { results := [.lit (.bool true)], args := [d] }
  | _ => none }
def fnIndex32ValidIffNotZeroValueRow : OpenClaim := { program := "ytedjaffefkahiaa", sum := "179e6edc5b7627ce0848c997a31552b9a5e73dec3262ca0393fd5a81cebaf7a4", func := "github.com/evanw/esbuild/n011_288.FnIndex32ValidIffNotZeroValue", spec := "fnIndex32ValidIffNotZeroValue", apart := false }
def FnIndex32ValidIffNotZeroValueSaid : Prop := fnIndex32ValidIffNotZeroValueRow.holds Try.pinned (OpenSpec.ofChange fnIndex32ValidIffNotZeroValueSpec)

/-- ITS FALSE NEIGHBOUR: 'it returns false'. Refute it at one input. -/
def fnIndex32ValidIffNotZeroValueWrong : ChangeSpec := { name := "fnIndex32ValidIffNotZeroValue", fn := fun _ => fun
  | [d] => { results := [.lit (.bool false)], args := [d] }
  | _ => none }
def FnIndex32ValidIffNotZeroValueWrongFalsely : Prop := fnIndex32ValidIffNotZeroValueRow.holds Try.pinned (OpenSpec.ofChange fnIndex32ValidIffNotZeroValueWrong)

/-- 'n011_13.FnIsFromCSSExactTable': WHATEVER THE INPUT: true; the input reads as it did. -/
def fnIsFromCSSExactTableSpec : ChangeSpec := { name := "fnIsFromCSSExactTable", fn := fun _ => fun
  | [d] => { results := [.lit (.bool true)], args := [d] }
  | _ => none }
def fnIsFromCSSExactTableRow : OpenClaim := { program := "ytedjaffefkahiaa", sum := "179e6edc5b7627ce0848c997a31552b9a5e73dec3262ca0393fd5a81cebaf7a4", func := "github.com/evanw/esbuild/n011_13.FnIsFromCSSExactTable", spec := "fnIsFromCSSExactTable", apart := false }
def FnIsFromCSSExactTableSaid : Prop := fnIsFromCSSExactTableRow.holds Try.pinned (OpenSpec.ofChange fnIsFromCSSExactTableSpec)

/-- ITS FALSE NEIGHBOUR: 'it returns false'. Refute it at one input. -/
def fnIsFromCSSExactTableWrong : ChangeSpec := { name := "fnIsFromCSSExactTable", fn := fun _ => fun
  | [d] => { results := [.lit (.bool false)], args := [d] }
  | _ => none }
def FnIsFromCSSExactTableWrongFalsely : Prop := fnIsFromCSSExactTableRow.holds Try.pinned (OpenSpec.ofChange fnIsFromCSSExactTableWrong)

/-- 'n011_32.FnIsFunctionSplitsByHoisting': WHATEVER THE INPUT: true; the input reads as it did. -/
def fnIsFunctionSplitsByHoistingSpec : ChangeSpec := { name := "fnIsFunctionSplitsByHoisting", fn := fun _ => fun
  | [d] => { results := [.lit (.bool true)], args := [d] }
  | _ => none }
def fnIsFunctionSplitsByHoistingRow : OpenClaim := { program := "ytedjaffefkahiaa", sum := "179e6edc5b7627ce0848c997a31552b9a5e73dec3262ca0393fd5a81cebaf7a4", func := "github.com/evanw/esbuild/n011_32.FnIsFunctionSplitsByHoisting", spec := "fnIsFunctionSplitsByHoisting", apart := false }
def FnIsFunctionSplitsByHoistingSaid : Prop := fnIsFunctionSplitsByHoistingRow.holds Try.pinned (OpenSpec.ofChange fnIsFunctionSplitsByHoistingSpec)

/-- ITS FALSE NEIGHBOUR: 'it returns false'. Refute it at one input. -/
def fnIsFunctionSplitsByHoistingWrong : ChangeSpec := { name := "fnIsFunctionSplitsByHoisting", fn := fun _ => fun
  | [d] => { results := [.lit (.bool false)], args := [d] }
  | _ => none }
def FnIsFunctionSplitsByHoistingWrongFalsely : Prop := fnIsFunctionSplitsByHoistingRow.holds Try.pinned (OpenSpec.ofChange fnIsFunctionSplitsByHoistingWrong)

/- THE SECOND FORM. 'bulk': how many values and letters a reading holds, each counted each time it is reached (what is shared counts as often as it is met; a slice's spare places count too). A statement '..UptoSaid' is the law's where the arguments, and the package variables that the reading takes, are together of bulk at most 1048576: NARROWER than '..Said'. Prove '..Said' where nothing that the law and all that it calls make is longer than what came in: it says more and counts as full. Else prove '..UptoSaid'. A law counts once. -/
mutual
def uptoBulk {H : Type} : DataW H → Nat
  | .lit (.string bytes) => bytes.length + 1
  | .lit _ => 1
  | .nil => 1
  | .ptr d => uptoBulk d + 1
  | .slice elems spare => uptoBulkAll elems + uptoBulkAll spare + 1
  | .agg parts => uptoBulkAll parts + 1
  | .iface _ d => uptoBulk d + 1
  | .map entries => uptoBulkEntries entries + 1
  | .held _ => 1
def uptoBulkAll {H : Type} : List (DataW H) → Nat
  | [] => 0
  | d :: r => uptoBulk d + uptoBulkAll r
def uptoBulkEntries {H : Type} : List (Lit × DataW H) → Nat
  | [] => 0
  | x :: r => uptoBulkEntry x + uptoBulkEntries r
def uptoBulkEntry {H : Type} : Lit × DataW H → Nat
  | (.string bytes, d) => bytes.length + uptoBulk d + 1
  | (_, d) => uptoBulk d + 1
 end
def uptoSmall : (H : Type) → List (DataW H) → Bool := fun _ ds => decide (uptoBulkAll ds ≤ 1048576)
def OpenSpec.upto (s : _root_.Go.ChangeSpec) : _root_.Go.OpenSpec := { _root_.Go.OpenSpec.ofChange s with cond := some uptoSmall }

/-- 'n011_288.FnIndex32RoundTripMakeGet', WHERE WHAT IT READS IS OF BULK AT MOST 1048576: true; the input reads as it did. -/
def fnIndex32RoundTripMakeGetUptoRow : OpenClaim := { program := "ytedjaffefkahiaa", sum := "179e6edc5b7627ce0848c997a31552b9a5e73dec3262ca0393fd5a81cebaf7a4", func := "github.com/evanw/esbuild/n011_288.FnIndex32RoundTripMakeGet", spec := "fnIndex32RoundTripMakeGet", apart := false, narrowed := true }
def FnIndex32RoundTripMakeGetUptoSaid : Prop := fnIndex32RoundTripMakeGetUptoRow.holds Try.pinned (OpenSpec.upto fnIndex32RoundTripMakeGetSpec)

/-- 'n011_50.FnIsNameContinueMatchesCharsetModel', WHERE WHAT IT READS IS OF BULK AT MOST 1048576: true; the input reads as it did. -/
def fnIsNameContinueMatchesCharsetModelUptoRow : OpenClaim := { program := "ytedjaffefkahiaa", sum := "179e6edc5b7627ce0848c997a31552b9a5e73dec3262ca0393fd5a81cebaf7a4", func := "github.com/evanw/esbuild/n011_50.FnIsNameContinueMatchesCharsetModel", spec := "fnIsNameContinueMatchesCharsetModel", apart := false, narrowed := true }
def FnIsNameContinueMatchesCharsetModelUptoSaid : Prop := fnIsNameContinueMatchesCharsetModelUptoRow.holds Try.pinned (OpenSpec.upto fnIsNameContinueMatchesCharsetModelSpec)

/-- 'n011_50.FnIsWhitespaceBitmaskModel', WHERE WHAT IT READS IS OF BULK AT MOST 1048576: true; the input reads as it did. -/
def fnIsWhitespaceBitmaskModelUptoRow : OpenClaim := { program := "ytedjaffefkahiaa", sum := "179e6edc5b7627ce0848c997a31552b9a5e73dec3262ca0393fd5a81cebaf7a4", func := "github.com/evanw/esbuild/n011_50.FnIsWhitespaceBitmaskModel", spec := "fnIsWhitespaceBitmaskModel", apart := false, narrowed := true }
def FnIsWhitespaceBitmaskModelUptoSaid : Prop := fnIsWhitespaceBitmaskModelUptoRow.holds Try.pinned (OpenSpec.upto fnIsWhitespaceBitmaskModelSpec)

/-- 'n011_288.FnIndex32ValidIffNotZeroValue', WHERE WHAT IT READS IS OF BULK AT MOST 1048576: true; the input reads as it did. -/
def fnIndex32ValidIffNotZeroValueUptoRow : OpenClaim := { program := "ytedjaffefkahiaa", sum := "179e6edc5b7627ce0848c997a31552b9a5e73dec3262ca0393fd5a81cebaf7a4", func := "github.com/evanw/esbuild/n011_288.FnIndex32ValidIffNotZeroValue", spec := "fnIndex32ValidIffNotZeroValue", apart := false, narrowed := true }
def FnIndex32ValidIffNotZeroValueUptoSaid : Prop := fnIndex32ValidIffNotZeroValueUptoRow.holds Try.pinned (OpenSpec.upto fnIndex32ValidIffNotZeroValueSpec)

/-- 'n011_13.FnIsFromCSSExactTable', WHERE WHAT IT READS IS OF BULK AT MOST 1048576: true; the input reads as it did. -/
def fnIsFromCSSExactTableUptoRow : OpenClaim := { program := "ytedjaffefkahiaa", sum := "179e6edc5b7627ce0848c997a31552b9a5e73dec3262ca0393fd5a81cebaf7a4", func := "github.com/evanw/esbuild/n011_13.FnIsFromCSSExactTable", spec := "fnIsFromCSSExactTable", apart := false, narrowed := true }
def FnIsFromCSSExactTableUptoSaid : Prop := fnIsFromCSSExactTableUptoRow.holds Try.pinned (OpenSpec.upto fnIsFromCSSExactTableSpec)

/-- 'n011_32.FnIsFunctionSplitsByHoisting', WHERE WHAT IT READS IS OF BULK AT MOST 1048576: true; the input reads as it did. -/
def fnIsFunctionSplitsByHoistingUptoRow : OpenClaim := { program := "ytedjaffefkahiaa", sum := "179e6edc5b7627ce0848c997a31552b9a5e73dec3262ca0393fd5a81cebaf7a4", func := "github.com/evanw/esbuild/n011_32.FnIsFunctionSplitsByHoisting", spec := "fnIsFunctionSplitsByHoisting", apart := false, narrowed := true }
def FnIsFunctionSplitsByHoistingUptoSaid : Prop := fnIsFunctionSplitsByHoistingUptoRow.holds Try.pinned (OpenSpec.upto fnIsFunctionSplitsByHoistingSpec)

end Rows
end Go.Proofs.Ytedjaffefkahiaa
