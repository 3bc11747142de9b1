/-
  No cell of these rows narrows 'for every input' (looked for: loops, veiled, ifaces, maps, wideKeys, modest, calm, conditions, laid).
  DERIVED. THE GIVEN ROWS OF THIS SEAT. 6 by the template 'for every input the law returns true; each argument reads behind the call as it read before'; 0 by the template 'total and deterministic' (their statements: YtajoaaodnjlocaaTotals.lean).
  GIVEN WITH THE SEED: the statements are not yours to turn. If you find one false, say at which input.
  Laid BY PROGRAM, IN A SANDBOX (cutbox-rows.mjs): the forced cells as the released guide's own fill.sh prints them over the translation 400e59ef7d2e67bf… (all of the seat's roots in one cut). By AI agents, Wed Nov 11 2026. No macro, syntax, notation, axiom, sorry.
-/
import Derived.Test.YtajoaaodnjlocaaChecked
import GoSem.Claim
import GoSem.ClaimJoined
import GoSem.ClaimMapViews
import Derived.JoinedTies
import Derived.KernelRfl
namespace Go.Proofs.Ytajoaaodnjlocaa
/- THE CELL 'sum', in the pinned program and in every row, IS THE sha256 OF THE DUMP (.gsa) THAT YtajoaaodnjlocaaProg.lean LOADS. Nothing in Lean hashes anything: it is a label: what it is worth is what the hold of that sum in a sandbox is worth. -/
noncomputable def Try.pinned : Pinned := { name := "ytajoaaodnjlocaa", sum := "400e59ef7d2e67bf002a49281087f8abe2e7639f01a65593d6061d53fdb2b340", checked := Try.checked }
namespace Rows
def none {H : Type} : Left H := { results := [], args := [] }

/-- 'n011_95.FnLogStyleDistinct': WHATEVER THE INPUT: true; the input reads as it did. -/
def fnLogStyleDistinctSpec : ChangeSpec := { name := "fnLogStyleDistinct", fn := fun _ => fun
  | [d1, d2] => { results := [.lit (.bool true)], args := [d1, d2] }
  | _ => none }
def fnLogStyleDistinctRow : OpenClaim := { program := "ytajoaaodnjlocaa", sum := "400e59ef7d2e67bf002a49281087f8abe2e7639f01a65593d6061d53fdb2b340", func := "github.com/evanw/esbuild/n011_95.FnLogStyleDistinct", spec := "fnLogStyleDistinct", apart := false }
def FnLogStyleDistinctSaid : Prop := fnLogStyleDistinctRow.holds Try.pinned (OpenSpec.ofChange fnLogStyleDistinctSpec)

/-- ITS FALSE NEIGHBOUR: 'it returns false'. Refute it at one input. -/
def fnLogStyleDistinctWrong : ChangeSpec := { name := "fnLogStyleDistinct", fn := fun _ => fun
  | [d1, d2] => { results := [.lit (.bool false)], args := [d1, d2] }
  | _ => none }
def FnLogStyleDistinctWrongFalsely : Prop := fnLogStyleDistinctRow.holds Try.pinned (OpenSpec.ofChange fnLogStyleDistinctWrong)

/-- 'n011_162.FnPnpStatusIsErrorTable': WHATEVER THE INPUT: true; the input reads as it did. -/
def fnPnpStatusIsErrorTableSpec : ChangeSpec := { name := "fnPnpStatusIsErrorTable", fn := fun _ => fun
  | [d] => { results := [.lit (.bool true)], args := [d] }
  | _ => none }
def fnPnpStatusIsErrorTableRow : OpenClaim := { program := "ytajoaaodnjlocaa", sum := "400e59ef7d2e67bf002a49281087f8abe2e7639f01a65593d6061d53fdb2b340", func := "github.com/evanw/esbuild/n011_162.FnPnpStatusIsErrorTable", spec := "fnPnpStatusIsErrorTable", apart := false }
def FnPnpStatusIsErrorTableSaid : Prop := fnPnpStatusIsErrorTableRow.holds Try.pinned (OpenSpec.ofChange fnPnpStatusIsErrorTableSpec)

/-- ITS FALSE NEIGHBOUR: 'it returns false'. Refute it at one input. -/
def fnPnpStatusIsErrorTableWrong : ChangeSpec := { name := "fnPnpStatusIsErrorTable", fn := fun _ => fun
  | [d] => { results := [.lit (.bool false)], args := [d] }
  | _ => none }
def FnPnpStatusIsErrorTableWrongFalsely : Prop := fnPnpStatusIsErrorTableRow.holds Try.pinned (OpenSpec.ofChange fnPnpStatusIsErrorTableWrong)

/-- 'n011_174.FnASCIIOnlyTable': WHATEVER THE INPUT: true; the input reads as it did. -/
def fnASCIIOnlyTableSpec : ChangeSpec := { name := "fnASCIIOnlyTable", fn := fun _ => fun
  | [d] => { results := [.lit (.bool true)], args := [d] }
  | _ => none }
def fnASCIIOnlyTableRow : OpenClaim := { program := "ytajoaaodnjlocaa", sum := "400e59ef7d2e67bf002a49281087f8abe2e7639f01a65593d6061d53fdb2b340", func := "github.com/evanw/esbuild/n011_174.FnASCIIOnlyTable", spec := "fnASCIIOnlyTable", apart := false }
def FnASCIIOnlyTableSaid : Prop := fnASCIIOnlyTableRow.holds Try.pinned (OpenSpec.ofChange fnASCIIOnlyTableSpec)

/-- ITS FALSE NEIGHBOUR: 'it returns false'. Refute it at one input. -/
def fnASCIIOnlyTableWrong : ChangeSpec := { name := "fnASCIIOnlyTable", fn := fun _ => fun
  | [d] => { results := [.lit (.bool false)], args := [d] }
  | _ => none }
def FnASCIIOnlyTableWrongFalsely : Prop := fnASCIIOnlyTableRow.holds Try.pinned (OpenSpec.ofChange fnASCIIOnlyTableWrong)

/-- 'n011_68.FnConvertEngineNameKeepsOrder': WHATEVER THE INPUT: true; the input reads as it did. -/
def fnConvertEngineNameKeepsOrderSpec : ChangeSpec := { name := "fnConvertEngineNameKeepsOrder", fn := fun _ => fun
  | [d1, d2] => { results := [.lit (.bool true)], args := [d1, d2] }
  | _ => none }
def fnConvertEngineNameKeepsOrderRow : OpenClaim := { program := "ytajoaaodnjlocaa", sum := "400e59ef7d2e67bf002a49281087f8abe2e7639f01a65593d6061d53fdb2b340", func := "github.com/evanw/esbuild/n011_68.FnConvertEngineNameKeepsOrder", spec := "fnConvertEngineNameKeepsOrder", apart := false }
def FnConvertEngineNameKeepsOrderSaid : Prop := fnConvertEngineNameKeepsOrderRow.holds Try.pinned (OpenSpec.ofChange fnConvertEngineNameKeepsOrderSpec)

/-- ITS FALSE NEIGHBOUR: 'it returns false'. Refute it at one input. -/
def fnConvertEngineNameKeepsOrderWrong : ChangeSpec := { name := "fnConvertEngineNameKeepsOrder", fn := fun _ => fun
  | [d1, d2] => { results := [.lit (.bool false)], args := [d1, d2] }
  | _ => none }
def FnConvertEngineNameKeepsOrderWrongFalsely : Prop := fnConvertEngineNameKeepsOrderRow.holds Try.pinned (OpenSpec.ofChange fnConvertEngineNameKeepsOrderWrong)

/-- 'n011_7.FnResolveKindRoundTrip': WHATEVER THE INPUT: true; the input reads as it did. -/
def fnResolveKindRoundTripSpec : ChangeSpec := { name := "fnResolveKindRoundTrip", fn := fun _ => fun
  | [d] => { results := [.lit (.bool true)], args := [d] }
  | _ => none }
def fnResolveKindRoundTripRow : OpenClaim := { program := "ytajoaaodnjlocaa", sum := "400e59ef7d2e67bf002a49281087f8abe2e7639f01a65593d6061d53fdb2b340", func := "github.com/evanw/esbuild/n011_7.FnResolveKindRoundTrip", spec := "fnResolveKindRoundTrip", apart := false }
def FnResolveKindRoundTripSaid : Prop := fnResolveKindRoundTripRow.holds Try.pinned (OpenSpec.ofChange fnResolveKindRoundTripSpec)

/-- ITS FALSE NEIGHBOUR: 'it returns false'. Refute it at one input. -/
def fnResolveKindRoundTripWrong : ChangeSpec := { name := "fnResolveKindRoundTrip", fn := fun _ => fun
  | [d] => { results := [.lit (.bool false)], args := [d] }
  | _ => none }
def FnResolveKindRoundTripWrongFalsely : Prop := fnResolveKindRoundTripRow.holds Try.pinned (OpenSpec.ofChange fnResolveKindRoundTripWrong)

/-- 'n011_174.FnTreeShakingTable': WHATEVER THE INPUT: true; the input reads as it did. -/
def fnTreeShakingTableSpec : ChangeSpec := { name := "fnTreeShakingTable", fn := fun _ => fun
  | [d1, d2, d3] => { results := [.lit (.bool true)], args := [d1, d2, d3] }
  | _ => none }
def fnTreeShakingTableRow : OpenClaim := { program := "ytajoaaodnjlocaa", sum := "400e59ef7d2e67bf002a49281087f8abe2e7639f01a65593d6061d53fdb2b340", func := "github.com/evanw/esbuild/n011_174.FnTreeShakingTable", spec := "fnTreeShakingTable", apart := false }
def FnTreeShakingTableSaid : Prop := fnTreeShakingTableRow.holds Try.pinned (OpenSpec.ofChange fnTreeShakingTableSpec)

/-- ITS FALSE NEIGHBOUR: 'it returns false'. Refute it at one input. -/
def fnTreeShakingTableWrong : ChangeSpec := { name := "fnTreeShakingTable", fn := fun _ => fun
  | [d1, d2, d3] => { results := [.lit (.bool false)], args := [d1, d2, d3] }
  | _ => none }
def FnTreeShakingTableWrongFalsely : Prop := fnTreeShakingTableRow.holds Try.pinned (OpenSpec.ofChange fnTreeShakingTableWrong)

/- THE SECOND FORM. 'bulk': how many values and letters a reading holds, each counted each time it is reached (what is shared counts as often as it is met; a slice's spare places count too). A statement '..UptoSaid' is the law's where the arguments, and the package variables that the reading takes, are together of bulk at most 1048576: NARROWER than '..Said'. Prove '..Said' where nothing that the law and all that it calls make is longer than what came in: it says more and counts as full. Else prove '..UptoSaid'. A law counts once. -/
mutual
def uptoBulk {H : Type} : DataW H → Nat
  | .lit (.string bytes) => bytes.length + 1
  | .lit _ => 1
  | .nil => 1
  | .ptr d => uptoBulk d + 1
  | .slice elems spare => uptoBulkAll elems + uptoBulkAll spare + 1
  | .agg parts => uptoBulkAll parts + 1
  | .iface _ d => uptoBulk d + 1
  | .map entries => uptoBulkEntries entries + 1
  | .held _ => 1
def uptoBulkAll {H : Type} : List (DataW H) → Nat
  | [] => 0
  | d :: r => uptoBulk d + uptoBulkAll r
def uptoBulkEntries {H : Type} : List (Lit × DataW H) → Nat
  | [] => 0
  | x :: r => uptoBulkEntry x + uptoBulkEntries r
def uptoBulkEntry {H : Type} : Lit × DataW H → Nat
  | (.string bytes, d) => bytes.length + uptoBulk d + 1
  | (_, d) => uptoBulk d + 1
 end
def uptoSmall : (H : Type) → List (DataW H) → Bool := fun _ ds => decide (uptoBulkAll ds ≤ 1048576)
def OpenSpec.upto (s : _root_.Go.ChangeSpec) : _root_.Go.OpenSpec := { _root_.Go.OpenSpec.ofChange s with cond := some uptoSmall }

/-- 'n011_95.FnLogStyleDistinct', WHERE WHAT IT READS IS OF BULK AT MOST 1048576: true; the input reads as it did. -/
def fnLogStyleDistinctUptoRow : OpenClaim := { program := "ytajoaaodnjlocaa", sum := "400e59ef7d2e67bf002a49281087f8abe2e7639f01a65593d6061d53fdb2b340", func := "github.com/evanw/esbuild/n011_95.FnLogStyleDistinct", spec := "fnLogStyleDistinct", apart := false, narrowed := true }
def FnLogStyleDistinctUptoSaid : Prop := fnLogStyleDistinctUptoRow.holds Try.pinned (OpenSpec.upto fnLogStyleDistinctSpec)

/-- 'n011_162.FnPnpStatusIsErrorTable', WHERE WHAT IT READS IS OF BULK AT MOST 1048576: true; the input reads as it did. -/
def fnPnpStatusIsErrorTableUptoRow : OpenClaim := { program := "ytajoaaodnjlocaa", sum := "400e59ef7d2e67bf002a49281087f8abe2e7639f01a65593d6061d53fdb2b340", func := "github.com/evanw/esbuild/n011_162.FnPnpStatusIsErrorTable", spec := "fnPnpStatusIsErrorTable", apart := false, narrowed := true }
def FnPnpStatusIsErrorTableUptoSaid : Prop := fnPnpStatusIsErrorTableUptoRow.holds Try.pinned (OpenSpec.upto fnPnpStatusIsErrorTableSpec)

/-- 'n011_174.FnASCIIOnlyTable', WHERE WHAT IT READS IS OF BULK AT MOST 1048576: true; the input reads as it did. -/
def fnASCIIOnlyTableUptoRow : OpenClaim := { program := "ytajoaaodnjlocaa", sum := "400e59ef7d2e67bf002a49281087f8abe2e7639f01a65593d6061d53fdb2b340", func := "github.com/evanw/esbuild/n011_174.FnASCIIOnlyTable", spec := "fnASCIIOnlyTable", apart := false, narrowed := true }
def FnASCIIOnlyTableUptoSaid : Prop := fnASCIIOnlyTableUptoRow.holds Try.pinned (OpenSpec.upto fnASCIIOnlyTableSpec)

/-- 'n011_68.FnConvertEngineNameKeepsOrder', WHERE WHAT IT READS IS OF BULK AT MOST 1048576: true; the input reads as it did. -/
def fnConvertEngineNameKeepsOrderUptoRow : OpenClaim := { program := "ytajoaaodnjlocaa", sum := "400e59ef7d2e67bf002a49281087f8abe2e7639f01a65593d6061d53fdb2b340", func := "github.com/evanw/esbuild/n011_68.FnConvertEngineNameKeepsOrder", spec := "fnConvertEngineNameKeepsOrder", apart := false, narrowed := true }
def FnConvertEngineNameKeepsOrderUptoSaid : Prop := fnConvertEngineNameKeepsOrderUptoRow.holds Try.pinned (OpenSpec.upto fnConvertEngineNameKeepsOrderSpec)

/-- 'n011_7.FnResolveKindRoundTrip', WHERE WHAT IT READS IS OF BULK AT MOST 1048576: true; the input reads as it did. -/
def fnResolveKindRoundTripUptoRow : OpenClaim := { program := "ytajoaaodnjlocaa", sum := "400e59ef7d2e67bf002a49281087f8abe2e7639f01a65593d6061d53fdb2b340", func := "github.com/evanw/esbuild/n011_7.FnResolveKindRoundTrip", spec := "fnResolveKindRoundTrip", apart := false, narrowed := true }
def FnResolveKindRoundTripUptoSaid : Prop := fnResolveKindRoundTripUptoRow.holds Try.pinned (OpenSpec.upto fnResolveKindRoundTripSpec)

/-- 'n011_174.FnTreeShakingTable', WHERE WHAT IT READS IS OF BULK AT MOST 1048576: true; the input reads as it did. -/
def fnTreeShakingTableUptoRow : OpenClaim := { program := "ytajoaaodnjlocaa", sum := "400e59ef7d2e67bf002a49281087f8abe2e7639f01a65593d6061d53fdb2b340", func := "github.com/evanw/esbuild/n011_174.FnTreeShakingTable", spec := "fnTreeShakingTable", apart := false, narrowed := true }
def FnTreeShakingTableUptoSaid : Prop := fnTreeShakingTableUptoRow.holds Try.pinned (OpenSpec.upto fnTreeShakingTableSpec)

end Rows
end Go.Proofs.Ytajoaaodnjlocaa
