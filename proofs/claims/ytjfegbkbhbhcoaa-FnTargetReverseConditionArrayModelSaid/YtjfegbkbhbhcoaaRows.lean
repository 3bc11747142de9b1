/-
  No cell of these rows narrows 'for every input' (looked for: loops, veiled, ifaces, maps, wideKeys, modest, calm, conditions, laid).
  DERIVED. THE GIVEN ROWS OF THIS SEAT. 3 by the template 'for every input the law returns true; each argument reads behind the call as it read before'; 0 by the template 'total and deterministic' (their statements: YtjfegbkbhbhcoaaTotals.lean).
  GIVEN WITH THE SEED: the statements are not yours to turn. If you find one false, say at which input.
  Laid BY PROGRAM, IN A SANDBOX (cutbox-rows.mjs): the forced cells as the released guide's own fill.sh prints them over the translation 5bbd7234dd63d05c… (all of the seat's roots in one cut). By AI agents, Wed Nov 11 2026. No macro, syntax, notation, axiom, sorry.
-/
import Derived.Test.YtjfegbkbhbhcoaaChecked
import GoSem.Claim
import GoSem.ClaimJoined
import GoSem.ClaimMapViews
import Derived.JoinedTies
import Derived.KernelRfl
namespace Go.Proofs.Ytjfegbkbhbhcoaa
/- THE CELL 'sum', in the pinned program and in every row, IS THE sha256 OF THE DUMP (.gsa) THAT YtjfegbkbhbhcoaaProg.lean LOADS. Nothing in Lean hashes anything: it is a label: what it is worth is what the hold of that sum in a sandbox is worth. -/
noncomputable def Try.pinned : Pinned := { name := "ytjfegbkbhbhcoaa", sum := "5bbd7234dd63d05c363fab7b6532f5d379807667ebe776eb1ec7e850a81f8660", checked := Try.checked }
namespace Rows
def none {H : Type} : Left H := { results := [], args := [] }

/-- 'n011_278.FnFindInvalidSegmentFirstSegmentIrrelevantAndFindsStay': WHATEVER THE INPUT: true; the input reads as it did. -/
def fnFindInvalidSegmentFirstSegmentIrrelevantAndFindsStaySpec : ChangeSpec := { name := "fnFindInvalidSegmentFirstSegmentIrrelevantAndFindsStay", fn := fun _ => fun
  | [d1, d2, d3, d4] => { results := [.lit (.bool true)], args := [d1, d2, d3, d4] }
  | _ => none }
def fnFindInvalidSegmentFirstSegmentIrrelevantAndFindsStayRow : OpenClaim := { program := "ytjfegbkbhbhcoaa", sum := "5bbd7234dd63d05c363fab7b6532f5d379807667ebe776eb1ec7e850a81f8660", func := "github.com/evanw/esbuild/n011_278.FnFindInvalidSegmentFirstSegmentIrrelevantAndFindsStay", spec := "fnFindInvalidSegmentFirstSegmentIrrelevantAndFindsStay", inPlace := ["internal/bytealg.IndexByteString", "internal/bytealg.IndexString"], named := ["internal/bytealg.MaxLen"], plainKeys := false, apart := false }
def FnFindInvalidSegmentFirstSegmentIrrelevantAndFindsStaySaid : Prop := fnFindInvalidSegmentFirstSegmentIrrelevantAndFindsStayRow.holds Try.pinned (OpenSpec.ofChange fnFindInvalidSegmentFirstSegmentIrrelevantAndFindsStaySpec)

/-- ITS FALSE NEIGHBOUR: 'it returns false'. Refute it at one input. -/
def fnFindInvalidSegmentFirstSegmentIrrelevantAndFindsStayWrong : ChangeSpec := { name := "fnFindInvalidSegmentFirstSegmentIrrelevantAndFindsStay", fn := fun _ => fun
  | [d1, d2, d3, d4] => { results := [.lit (.bool false)], args := [d1, d2, d3, d4] }
  | _ => none }
def FnFindInvalidSegmentFirstSegmentIrrelevantAndFindsStayWrongFalsely : Prop := fnFindInvalidSegmentFirstSegmentIrrelevantAndFindsStayRow.holds Try.pinned (OpenSpec.ofChange fnFindInvalidSegmentFirstSegmentIrrelevantAndFindsStayWrong)

/-- 'n011_78.FnExportsReverseRefusesNonSubpathRoots': WHATEVER THE INPUT: true; the input reads as it did. -/
def fnExportsReverseRefusesNonSubpathRootsSpec : ChangeSpec := { name := "fnExportsReverseRefusesNonSubpathRoots", fn := fun _ => fun
  | [d1, d2, d3, d4] => { results := [.lit (.bool true)], args := [d1, d2, d3, d4] }
  | _ => none }
def fnExportsReverseRefusesNonSubpathRootsRow : OpenClaim := { program := "ytjfegbkbhbhcoaa", sum := "5bbd7234dd63d05c363fab7b6532f5d379807667ebe776eb1ec7e850a81f8660", func := "github.com/evanw/esbuild/n011_78.FnExportsReverseRefusesNonSubpathRoots", spec := "fnExportsReverseRefusesNonSubpathRoots", inPlace := ["internal/bytealg.IndexByteString", "internal/bytealg.IndexString"], recurses := true, named := ["internal/bytealg.MaxLen"], plainKeys := false, apart := false }
def FnExportsReverseRefusesNonSubpathRootsSaid : Prop := fnExportsReverseRefusesNonSubpathRootsRow.holds Try.pinned (OpenSpec.ofChange fnExportsReverseRefusesNonSubpathRootsSpec)

/-- ITS FALSE NEIGHBOUR: 'it returns false'. Refute it at one input. -/
def fnExportsReverseRefusesNonSubpathRootsWrong : ChangeSpec := { name := "fnExportsReverseRefusesNonSubpathRoots", fn := fun _ => fun
  | [d1, d2, d3, d4] => { results := [.lit (.bool false)], args := [d1, d2, d3, d4] }
  | _ => none }
def FnExportsReverseRefusesNonSubpathRootsWrongFalsely : Prop := fnExportsReverseRefusesNonSubpathRootsRow.holds Try.pinned (OpenSpec.ofChange fnExportsReverseRefusesNonSubpathRootsWrong)

/-- 'n011_78.FnTargetReverseConditionArrayModel': WHATEVER THE INPUT: true; the input reads as it did. -/
def fnTargetReverseConditionArrayModelSpec : ChangeSpec := { name := "fnTargetReverseConditionArrayModel", fn := fun _ => fun
  | [d1, d2, d3, d4, d5] => { results := [.lit (.bool true)], args := [d1, d2, d3, d4, d5] }
  | _ => none }
def fnTargetReverseConditionArrayModelRow : OpenClaim := { program := "ytjfegbkbhbhcoaa", sum := "5bbd7234dd63d05c363fab7b6532f5d379807667ebe776eb1ec7e850a81f8660", func := "github.com/evanw/esbuild/n011_78.FnTargetReverseConditionArrayModel", spec := "fnTargetReverseConditionArrayModel", inPlace := ["internal/bytealg.IndexByteString", "internal/bytealg.IndexString"], recurses := true, named := ["internal/bytealg.MaxLen"], plainKeys := false, apart := false }
def FnTargetReverseConditionArrayModelSaid : Prop := fnTargetReverseConditionArrayModelRow.holds Try.pinned (OpenSpec.ofChange fnTargetReverseConditionArrayModelSpec)

/-- ITS FALSE NEIGHBOUR: 'it returns false'. Refute it at one input. -/
def fnTargetReverseConditionArrayModelWrong : ChangeSpec := { name := "fnTargetReverseConditionArrayModel", fn := fun _ => fun
  | [d1, d2, d3, d4, d5] => { results := [.lit (.bool false)], args := [d1, d2, d3, d4, d5] }
  | _ => none }
def FnTargetReverseConditionArrayModelWrongFalsely : Prop := fnTargetReverseConditionArrayModelRow.holds Try.pinned (OpenSpec.ofChange fnTargetReverseConditionArrayModelWrong)

/- THE SECOND FORM. 'bulk': how many values and letters a reading holds, each counted each time it is reached (what is shared counts as often as it is met; a slice's spare places count too). A statement '..UptoSaid' is the law's where the arguments, and the package variables that the reading takes, are together of bulk at most 1048576: NARROWER than '..Said'. Prove '..Said' where nothing that the law and all that it calls make is longer than what came in: it says more and counts as full. Else prove '..UptoSaid'. A law counts once. -/
mutual
def uptoBulk {H : Type} : DataW H → Nat
  | .lit (.string bytes) => bytes.length + 1
  | .lit _ => 1
  | .nil => 1
  | .ptr d => uptoBulk d + 1
  | .slice elems spare => uptoBulkAll elems + uptoBulkAll spare + 1
  | .agg parts => uptoBulkAll parts + 1
  | .iface _ d => uptoBulk d + 1
  | .map entries => uptoBulkEntries entries + 1
  | .held _ => 1
def uptoBulkAll {H : Type} : List (DataW H) → Nat
  | [] => 0
  | d :: r => uptoBulk d + uptoBulkAll r
def uptoBulkEntries {H : Type} : List (Lit × DataW H) → Nat
  | [] => 0
  | x :: r => uptoBulkEntry x + uptoBulkEntries r
def uptoBulkEntry {H : Type} : Lit × DataW H → Nat
  | (.string bytes, d) => bytes.length + uptoBulk d + 1
  | (_, d) => uptoBulk d + 1
 end
def uptoSmall : (H : Type) → List (DataW H) → Bool := fun _ ds => decide (uptoBulkAll ds ≤ 1048576)
def OpenSpec.upto (s : _root_.Go.ChangeSpec) : _root_.Go.OpenSpec := { _root_.Go.OpenSpec.ofChange s with cond := some uptoSmall }

/-- 'n011_278.FnFindInvalidSegmentFirstSegmentIrrelevantAndFindsStay', WHERE WHAT IT READS IS OF BULK AT MOST 1048576: true; the input reads as it did. -/
def fnFindInvalidSegmentFirstSegmentIrrelevantAndFindsStayUptoRow : OpenClaim := { program := "ytjfegbkbhbhcoaa", sum := "5bbd7234dd63d05c363fab7b6532f5d379807667ebe776eb1ec7e850a81f8660", func := "github.com/evanw/esbuild/n011_278.FnFindInvalidSegmentFirstSegmentIrrelevantAndFindsStay", spec := "fnFindInvalidSegmentFirstSegmentIrrelevantAndFindsStay", inPlace := ["internal/bytealg.IndexByteString", "internal/bytealg.IndexString"], named := ["internal/bytealg.MaxLen"], plainKeys := false, apart := false, narrowed := true }
def FnFindInvalidSegmentFirstSegmentIrrelevantAndFindsStayUptoSaid : Prop := fnFindInvalidSegmentFirstSegmentIrrelevantAndFindsStayUptoRow.holds Try.pinned (OpenSpec.upto fnFindInvalidSegmentFirstSegmentIrrelevantAndFindsStaySpec)

/-- 'n011_78.FnExportsReverseRefusesNonSubpathRoots', WHERE WHAT IT READS IS OF BULK AT MOST 1048576: true; the input reads as it did. -/
def fnExportsReverseRefusesNonSubpathRootsUptoRow : OpenClaim := { program := "ytjfegbkbhbhcoaa", sum := "5bbd7234dd63d05c363fab7b6532f5d379807667ebe776eb1ec7e850a81f8660", func := "github.com/evanw/esbuild/n011_78.FnExportsReverseRefusesNonSubpathRoots", spec := "fnExportsReverseRefusesNonSubpathRoots", inPlace := ["internal/bytealg.IndexByteString", "internal/bytealg.IndexString"], recurses := true, named := ["internal/bytealg.MaxLen"], plainKeys := false, apart := false, narrowed := true }
def FnExportsReverseRefusesNonSubpathRootsUptoSaid : Prop := fnExportsReverseRefusesNonSubpathRootsUptoRow.holds Try.pinned (OpenSpec.upto fnExportsReverseRefusesNonSubpathRootsSpec)

/-- 'n011_78.FnTargetReverseConditionArrayModel', WHERE WHAT IT READS IS OF BULK AT MOST 1048576: true; the input reads as it did. -/
def fnTargetReverseConditionArrayModelUptoRow : OpenClaim := { program := "ytjfegbkbhbhcoaa", sum := "5bbd7234dd63d05c363fab7b6532f5d379807667ebe776eb1ec7e850a81f8660", func := "github.com/evanw/esbuild/n011_78.FnTargetReverseConditionArrayModel", spec := "fnTargetReverseConditionArrayModel", inPlace := ["internal/bytealg.IndexByteString", "internal/bytealg.IndexString"], recurses := true, named := ["internal/bytealg.MaxLen"], plainKeys := false, apart := false, narrowed := true }
def FnTargetReverseConditionArrayModelUptoSaid : Prop := fnTargetReverseConditionArrayModelUptoRow.holds Try.pinned (OpenSpec.upto fnTargetReverseConditionArrayModelSpec)

end Rows
end Go.Proofs.Ytjfegbkbhbhcoaa
