/-
  No cell of these rows narrows 'for every input' (looked for: loops, veiled, ifaces, maps, wideKeys, modest, calm, conditions, laid).
  DERIVED. THE GIVEN ROWS OF THIS SEAT. 6 by the template 'for every input the law returns true; each argument reads behind the call as it read before'; 0 by the template 'total and deterministic' (their statements: YtajoaaodnjlocabTotals.lean).
  GIVEN WITH THE SEED: the statements are not yours to turn. If you find one false, say at which input.
  Laid BY PROGRAM, IN A SANDBOX (cutbox-rows.mjs): the forced cells as the released guide's own fill.sh prints them over the translation 7855362e989a0f6c… (all of the seat's roots in one cut). By AI agents, Wed Nov 11 2026. No macro, syntax, notation, axiom, sorry.
-/
import Derived.Test.YtajoaaodnjlocabChecked
import GoSem.Claim
import GoSem.ClaimJoined
import GoSem.ClaimMapViews
import Derived.JoinedTies
import Derived.KernelRfl
namespace Go.Proofs.Ytajoaaodnjlocab
/- THE CELL 'sum', in the pinned program and in every row, IS THE sha256 OF THE DUMP (.gsa) THAT YtajoaaodnjlocabProg.lean LOADS. Nothing in Lean hashes anything: it is a label: what it is worth is what the hold of that sum in a sandbox is worth. -/
noncomputable def Try.pinned : Pinned := { name := "ytajoaaodnjlocab", sum := "7855362e989a0f6ce46592a8c8f5261bab51c1ff157ea7535be03798cb28cce5", checked := Try.checked }
namespace Rows
def none {H : Type} : Left H := { results := [], args := [] }

/-- 'n011_311.FnIsNameStartTable': WHATEVER THE INPUT: true; the input reads as it did. -/
def fnIsNameStartTableSpec : ChangeSpec := { name := "fnIsNameStartTable", fn := fun _ => fun
  | [d] => { results := [.lit (.bool true)], args := [d] }
  | _ => none }
def fnIsNameStartTableRow : OpenClaim := { program := "ytajoaaodnjlocab", sum := "7855362e989a0f6ce46592a8c8f5261bab51c1ff157ea7535be03798cb28cce5", func := "github.com/evanw/esbuild/n011_311.FnIsNameStartTable", spec := "fnIsNameStartTable", apart := false }
def FnIsNameStartTableSaid : Prop := fnIsNameStartTableRow.holds Try.pinned (OpenSpec.ofChange fnIsNameStartTableSpec)

/-- ITS FALSE NEIGHBOUR: 'it returns false'. Refute it at one input. -/
def fnIsNameStartTableWrong : ChangeSpec := { name := "fnIsNameStartTable", fn := fun _ => fun
  | [d] => { results := [.lit (.bool false)], args := [d] }
  | _ => none }
def FnIsNameStartTableWrongFalsely : Prop := fnIsNameStartTableRow.holds Try.pinned (OpenSpec.ofChange fnIsNameStartTableWrong)

/-- 'n011_75.FnSymbolFlagsHasAlgebra': WHATEVER THE INPUT: true; the input reads as it did. -/
def fnSymbolFlagsHasAlgebraSpec : ChangeSpec := { name := "fnSymbolFlagsHasAlgebra", fn := fun _ => fun
  | [d1, d2, d3] => { results := [.lit (.bool true)], args := [d1, d2, d3] }
  | _ => none }
def fnSymbolFlagsHasAlgebraRow : OpenClaim := { program := "ytajoaaodnjlocab", sum := "7855362e989a0f6ce46592a8c8f5261bab51c1ff157ea7535be03798cb28cce5", func := "github.com/evanw/esbuild/n011_75.FnSymbolFlagsHasAlgebra", spec := "fnSymbolFlagsHasAlgebra", apart := false }
def FnSymbolFlagsHasAlgebraSaid : Prop := fnSymbolFlagsHasAlgebraRow.holds Try.pinned (OpenSpec.ofChange fnSymbolFlagsHasAlgebraSpec)

/-- ITS FALSE NEIGHBOUR: 'it returns false'. Refute it at one input. -/
def fnSymbolFlagsHasAlgebraWrong : ChangeSpec := { name := "fnSymbolFlagsHasAlgebra", fn := fun _ => fun
  | [d1, d2, d3] => { results := [.lit (.bool false)], args := [d1, d2, d3] }
  | _ => none }
def FnSymbolFlagsHasAlgebraWrongFalsely : Prop := fnSymbolFlagsHasAlgebraRow.holds Try.pinned (OpenSpec.ofChange fnSymbolFlagsHasAlgebraWrong)

/-- 'n011_8.FnMergeContentsSlotOnlyMovesToPinned': WHATEVER THE INPUT: true; the input reads as it did. -/
def fnMergeContentsSlotOnlyMovesToPinnedSpec : ChangeSpec := { name := "fnMergeContentsSlotOnlyMovesToPinned", fn := fun _ => fun
  | [d1, d2, d3, d4] => { results := [.lit (.bool true)], args := [d1, d2, d3, d4] }
  | _ => none }
def fnMergeContentsSlotOnlyMovesToPinnedRow : OpenClaim := { program := "ytajoaaodnjlocab", sum := "7855362e989a0f6ce46592a8c8f5261bab51c1ff157ea7535be03798cb28cce5", func := "github.com/evanw/esbuild/n011_8.FnMergeContentsSlotOnlyMovesToPinned", spec := "fnMergeContentsSlotOnlyMovesToPinned", apart := false }
def FnMergeContentsSlotOnlyMovesToPinnedSaid : Prop := fnMergeContentsSlotOnlyMovesToPinnedRow.holds Try.pinned (OpenSpec.ofChange fnMergeContentsSlotOnlyMovesToPinnedSpec)

/-- ITS FALSE NEIGHBOUR: 'it returns false'. Refute it at one input. -/
def fnMergeContentsSlotOnlyMovesToPinnedWrong : ChangeSpec := { name := "fnMergeContentsSlotOnlyMovesToPinned", fn := fun _ => fun
  | [d1, d2, d3, d4] => { results := [.lit (.bool false)], args := [d1, d2, d3, d4] }
  | _ => none }
def FnMergeContentsSlotOnlyMovesToPinnedWrongFalsely : Prop := fnMergeContentsSlotOnlyMovesToPinnedRow.holds Try.pinned (OpenSpec.ofChange fnMergeContentsSlotOnlyMovesToPinnedWrong)

/-- 'n011_8.FnSlotNamespaceSeesOnlyKindAndPin': WHATEVER THE INPUT: true; the input reads as it did. -/
def fnSlotNamespaceSeesOnlyKindAndPinSpec : ChangeSpec := { name := "fnSlotNamespaceSeesOnlyKindAndPin", fn := fun _ => fun
  | [d1, d2, d3, d4, d5, d6, d7] => { results := [.lit (.bool true)], args := [d1, d2, d3, d4, d5, d6, d7] }
  | _ => none }
def fnSlotNamespaceSeesOnlyKindAndPinRow : OpenClaim := { program := "ytajoaaodnjlocab", sum := "7855362e989a0f6ce46592a8c8f5261bab51c1ff157ea7535be03798cb28cce5", func := "github.com/evanw/esbuild/n011_8.FnSlotNamespaceSeesOnlyKindAndPin", spec := "fnSlotNamespaceSeesOnlyKindAndPin", apart := false }
def FnSlotNamespaceSeesOnlyKindAndPinSaid : Prop := fnSlotNamespaceSeesOnlyKindAndPinRow.holds Try.pinned (OpenSpec.ofChange fnSlotNamespaceSeesOnlyKindAndPinSpec)

/-- ITS FALSE NEIGHBOUR: 'it returns false'. Refute it at one input. -/
def fnSlotNamespaceSeesOnlyKindAndPinWrong : ChangeSpec := { name := "fnSlotNamespaceSeesOnlyKindAndPin", fn := fun _ => fun
  | [d1, d2, d3, d4, d5, d6, d7] => { results := [.lit (.bool false)], args := [d1, d2, d3, d4, d5, d6, d7] }
  | _ => none }
def FnSlotNamespaceSeesOnlyKindAndPinWrongFalsely : Prop := fnSlotNamespaceSeesOnlyKindAndPinRow.holds Try.pinned (OpenSpec.ofChange fnSlotNamespaceSeesOnlyKindAndPinWrong)

/-- 'n011_8.FnImportKindMetafileNameIsKebabWord': WHATEVER THE INPUT: true; the input reads as it did. -/
def fnImportKindMetafileNameIsKebabWordSpec : ChangeSpec := { name := "fnImportKindMetafileNameIsKebabWord", fn := fun _ => fun
  | [d] => { results := [.lit (.bool true)], args := [d] }
  | _ => none }
def fnImportKindMetafileNameIsKebabWordRow : OpenClaim := { program := "ytajoaaodnjlocab", sum := "7855362e989a0f6ce46592a8c8f5261bab51c1ff157ea7535be03798cb28cce5", func := "github.com/evanw/esbuild/n011_8.FnImportKindMetafileNameIsKebabWord", spec := "fnImportKindMetafileNameIsKebabWord", apart := false }
def FnImportKindMetafileNameIsKebabWordSaid : Prop := fnImportKindMetafileNameIsKebabWordRow.holds Try.pinned (OpenSpec.ofChange fnImportKindMetafileNameIsKebabWordSpec)

/-- ITS FALSE NEIGHBOUR: 'it returns false'. Refute it at one input. -/
def fnImportKindMetafileNameIsKebabWordWrong : ChangeSpec := { name := "fnImportKindMetafileNameIsKebabWord", fn := fun _ => fun
  | [d] => { results := [.lit (.bool false)], args := [d] }
  | _ => none }
def FnImportKindMetafileNameIsKebabWordWrongFalsely : Prop := fnImportKindMetafileNameIsKebabWordRow.holds Try.pinned (OpenSpec.ofChange fnImportKindMetafileNameIsKebabWordWrong)

/-- 'n011_63.FnLessIsStrictTotalOrderOnKeys': WHATEVER THE INPUT: true; the input reads as it did. -/
def fnLessIsStrictTotalOrderOnKeysSpec : ChangeSpec := { name := "fnLessIsStrictTotalOrderOnKeys", fn := fun _ => fun
  | [d1, d2, d3, d4, d5, d6] => { results := [.lit (.bool true)], args := [d1, d2, d3, d4, d5, d6] }
  | _ => none }
def fnLessIsStrictTotalOrderOnKeysRow : OpenClaim := { program := "ytajoaaodnjlocab", sum := "7855362e989a0f6ce46592a8c8f5261bab51c1ff157ea7535be03798cb28cce5", func := "github.com/evanw/esbuild/n011_63.FnLessIsStrictTotalOrderOnKeys", spec := "fnLessIsStrictTotalOrderOnKeys", apart := false }
def FnLessIsStrictTotalOrderOnKeysSaid : Prop := fnLessIsStrictTotalOrderOnKeysRow.holds Try.pinned (OpenSpec.ofChange fnLessIsStrictTotalOrderOnKeysSpec)

/-- ITS FALSE NEIGHBOUR: 'it returns false'. Refute it at one input. -/
def fnLessIsStrictTotalOrderOnKeysWrong : ChangeSpec := { name := "fnLessIsStrictTotalOrderOnKeys", fn := fun _ => fun
  | [d1, d2, d3, d4, d5, d6] => { results := [.lit (.bool false)], args := [d1, d2, d3, d4, d5, d6] }
  | _ => none }
def FnLessIsStrictTotalOrderOnKeysWrongFalsely : Prop := fnLessIsStrictTotalOrderOnKeysRow.holds Try.pinned (OpenSpec.ofChange fnLessIsStrictTotalOrderOnKeysWrong)

/- THE SECOND FORM. 'bulk': how many values and letters a reading holds, each counted each time it is reached (what is shared counts as often as it is met; a slice's spare places count too). A statement '..UptoSaid' is the law's where the arguments, and the package variables that the reading takes, are together of bulk at most 1048576: NARROWER than '..Said'. Prove '..Said' where nothing that the law and all that it calls make is longer than what came in: it says more and counts as full. Else prove '..UptoSaid'. A law counts once. -/
mutual
def uptoBulk {H : Type} : DataW H → Nat
  | .lit (.string bytes) => bytes.length + 1
  | .lit _ => 1
  | .nil => 1
  | .ptr d => uptoBulk d + 1
  | .slice elems spare => uptoBulkAll elems + uptoBulkAll spare + 1
  | .agg parts => uptoBulkAll parts + 1
  | .iface _ d => uptoBulk d + 1
  | .map entries => uptoBulkEntries entries + 1
  | .held _ => 1
def uptoBulkAll {H : Type} : List (DataW H) → Nat
  | [] => 0
  | d :: r => uptoBulk d + uptoBulkAll r
def uptoBulkEntries {H : Type} : List (Lit × DataW H) → Nat
  | [] => 0
  | x :: r => uptoBulkEntry x + uptoBulkEntries r
def uptoBulkEntry {H : Type} : Lit × DataW H → Nat
  | (.string bytes, d) => bytes.length + uptoBulk d + 1
  | (_, d) => uptoBulk d + 1
 end
def uptoSmall : (H : Type) → List (DataW H) → Bool := fun _ ds => decide (uptoBulkAll ds ≤ 1048576)
def OpenSpec.upto (s : _root_.Go.ChangeSpec) : _root_.Go.OpenSpec := { _root_.Go.OpenSpec.ofChange s with cond := some uptoSmall }

/-- 'n011_311.FnIsNameStartTable', WHERE WHAT IT READS IS OF BULK AT MOST 1048576: true; the input reads as it did. -/
def fnIsNameStartTableUptoRow : OpenClaim := { program := "ytajoaaodnjlocab", sum := "7855362e989a0f6ce46592a8c8f5261bab51c1ff157ea7535be03798cb28cce5", func := "github.com/evanw/esbuild/n011_311.FnIsNameStartTable", spec := "fnIsNameStartTable", apart := false, narrowed := true }
def FnIsNameStartTableUptoSaid : Prop := fnIsNameStartTableUptoRow.holds Try.pinned (OpenSpec.upto fnIsNameStartTableSpec)

/-- 'n011_75.FnSymbolFlagsHasAlgebra', WHERE WHAT IT READS IS OF BULK AT MOST 1048576: true; the input reads as it did. -/
def fnSymbolFlagsHasAlgebraUptoRow : OpenClaim := { program := "ytajoaaodnjlocab", sum := "7855362e989a0f6ce46592a8c8f5261bab51c1ff157ea7535be03798cb28cce5", func := "github.com/evanw/esbuild/n011_75.FnSymbolFlagsHasAlgebra", spec := "fnSymbolFlagsHasAlgebra", apart := false, narrowed := true }
def FnSymbolFlagsHasAlgebraUptoSaid : Prop := fnSymbolFlagsHasAlgebraUptoRow.holds Try.pinned (OpenSpec.upto fnSymbolFlagsHasAlgebraSpec)

/-- 'n011_8.FnMergeContentsSlotOnlyMovesToPinned', WHERE WHAT IT READS IS OF BULK AT MOST 1048576: true; the input reads as it did. -/
def fnMergeContentsSlotOnlyMovesToPinnedUptoRow : OpenClaim := { program := "ytajoaaodnjlocab", sum := "7855362e989a0f6ce46592a8c8f5261bab51c1ff157ea7535be03798cb28cce5", func := "github.com/evanw/esbuild/n011_8.FnMergeContentsSlotOnlyMovesToPinned", spec := "fnMergeContentsSlotOnlyMovesToPinned", apart := false, narrowed := true }
def FnMergeContentsSlotOnlyMovesToPinnedUptoSaid : Prop := fnMergeContentsSlotOnlyMovesToPinnedUptoRow.holds Try.pinned (OpenSpec.upto fnMergeContentsSlotOnlyMovesToPinnedSpec)

/-- 'n011_8.FnSlotNamespaceSeesOnlyKindAndPin', WHERE WHAT IT READS IS OF BULK AT MOST 1048576: true; the input reads as it did. -/
def fnSlotNamespaceSeesOnlyKindAndPinUptoRow : OpenClaim := { program := "ytajoaaodnjlocab", sum := "7855362e989a0f6ce46592a8c8f5261bab51c1ff157ea7535be03798cb28cce5", func := "github.com/evanw/esbuild/n011_8.FnSlotNamespaceSeesOnlyKindAndPin", spec := "fnSlotNamespaceSeesOnlyKindAndPin", apart := false, narrowed := true }
def FnSlotNamespaceSeesOnlyKindAndPinUptoSaid : Prop := fnSlotNamespaceSeesOnlyKindAndPinUptoRow.holds Try.pinned (OpenSpec.upto fnSlotNamespaceSeesOnlyKindAndPinSpec)

/-- 'n011_8.FnImportKindMetafileNameIsKebabWord', WHERE WHAT IT READS IS OF BULK AT MOST 1048576: true; the input reads as it did. -/
def fnImportKindMetafileNameIsKebabWordUptoRow : OpenClaim := { program := "ytajoaaodnjlocab", sum := "7855362e989a0f6ce46592a8c8f5261bab51c1ff157ea7535be03798cb28cce5", func := "github.com/evanw/esbuild/n011_8.FnImportKindMetafileNameIsKebabWord", spec := "fnImportKindMetafileNameIsKebabWord", apart := false, narrowed := true }
def FnImportKindMetafileNameIsKebabWordUptoSaid : Prop := fnImportKindMetafileNameIsKebabWordUptoRow.holds Try.pinned (OpenSpec.upto fnImportKindMetafileNameIsKebabWordSpec)

/-- 'n011_63.FnLessIsStrictTotalOrderOnKeys', WHERE WHAT IT READS IS OF BULK AT MOST 1048576: true; the input reads as it did. -/
def fnLessIsStrictTotalOrderOnKeysUptoRow : OpenClaim := { program := "ytajoaaodnjlocab", sum := "7855362e989a0f6ce46592a8c8f5261bab51c1ff157ea7535be03798cb28cce5", func := "github.com/evanw/esbuild/n011_63.FnLessIsStrictTotalOrderOnKeys", spec := "fnLessIsStrictTotalOrderOnKeys", apart := false, narrowed := true }
def FnLessIsStrictTotalOrderOnKeysUptoSaid : Prop := fnLessIsStrictTotalOrderOnKeysUptoRow.holds Try.pinned (OpenSpec.upto fnLessIsStrictTotalOrderOnKeysSpec)

end Rows
end Go.Proofs.Ytajoaaodnjlocab
