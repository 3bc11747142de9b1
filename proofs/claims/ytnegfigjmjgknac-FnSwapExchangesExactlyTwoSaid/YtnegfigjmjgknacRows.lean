/-
  No cell of these rows narrows 'for every input' (looked for: loops, veiled, ifaces, maps, wideKeys, modest, calm, conditions, laid).
  DERIVED. THE GIVEN ROWS OF THIS SEAT. 4 by the template 'for every input the law returns true; each argument reads behind the call as it read before'; 0 by the template 'total and deterministic' (their statements: YtnegfigjmjgknacTotals.lean).
  GIVEN WITH THE SEED: the statements are not yours to turn. If you find one false, say at which input.
  Laid BY PROGRAM, IN A SANDBOX (cutbox-rows.mjs): the forced cells as the released guide's own fill.sh prints them over the translation 059444cb37d2d300… (all of the seat's roots in one cut). By AI agents, Wed Nov 11 2026. No macro, syntax, notation, axiom, sorry.
-/
import Derived.Test.YtnegfigjmjgknacChecked
import GoSem.Claim
import GoSem.ClaimJoined
import GoSem.ClaimMapViews
import Derived.JoinedTies
import Derived.KernelRfl
namespace Go.Proofs.Ytnegfigjmjgknac
/- THE CELL 'sum', in the pinned program and in every row, IS THE sha256 OF THE DUMP (.gsa) THAT YtnegfigjmjgknacProg.lean LOADS. Nothing in Lean hashes anything: it is a label: what it is worth is what the hold of that sum in a sandbox is worth. -/
noncomputable def Try.pinned : Pinned := { name := "ytnegfigjmjgknac", sum := "059444cb37d2d300427c6ad6a824bb32187c708a4f67fd6f9131ad47d2f6457d", checked := Try.checked }
namespace Rows
def none {H : Type} : Left H := { results := [], args := [] }

/-- 'n011_163.FnSwapExchangesExactlyTwo': WHATEVER THE INPUT: true; the input reads as it did. -/
def fnSwapExchangesExactlyTwoSpec : ChangeSpec := { name := "fnSwapExchangesExactlyTwo", fn := fun _ => fun
  | [d1, d2, d3] => { results := [.lit (.bool true)], args := [d1, d2, d3] }
  | _ => none }
def fnSwapExchangesExactlyTwoRow : OpenClaim := { program := "ytnegfigjmjgknac", sum := "059444cb37d2d300427c6ad6a824bb32187c708a4f67fd6f9131ad47d2f6457d", func := "github.com/evanw/esbuild/n011_163.FnSwapExchangesExactlyTwo", spec := "fnSwapExchangesExactlyTwo", apart := false }
def FnSwapExchangesExactlyTwoSaid : Prop := fnSwapExchangesExactlyTwoRow.holds Try.pinned (OpenSpec.ofChange fnSwapExchangesExactlyTwoSpec)

/-- ITS FALSE NEIGHBOUR: 'it returns false'. Refute it at one input. -/
def fnSwapExchangesExactlyTwoWrong : ChangeSpec := { name := "fnSwapExchangesExactlyTwo", fn := fun _ => fun
  | [d1, d2, d3] => { results := [.lit (.bool false)], args := [d1, d2, d3] }
  | _ => none }
def FnSwapExchangesExactlyTwoWrongFalsely : Prop := fnSwapExchangesExactlyTwoRow.holds Try.pinned (OpenSpec.ofChange fnSwapExchangesExactlyTwoWrong)

/-- 'n011_163.FnValueForKeyFirstMatch': WHATEVER THE INPUT: true; the input reads as it did. -/
def fnValueForKeyFirstMatchSpec : ChangeSpec := { name := "fnValueForKeyFirstMatch", fn := fun _ => fun
  | [d1, d2, d3] => { results := [.lit (.bool true)], args := [d1, d2, d3] }
  | _ => none }
def fnValueForKeyFirstMatchRow : OpenClaim := { program := "ytnegfigjmjgknac", sum := "059444cb37d2d300427c6ad6a824bb32187c708a4f67fd6f9131ad47d2f6457d", func := "github.com/evanw/esbuild/n011_163.FnValueForKeyFirstMatch", spec := "fnValueForKeyFirstMatch", apart := false }
def FnValueForKeyFirstMatchSaid : Prop := fnValueForKeyFirstMatchRow.holds Try.pinned (OpenSpec.ofChange fnValueForKeyFirstMatchSpec)

/-- ITS FALSE NEIGHBOUR: 'it returns false'. Refute it at one input. -/
def fnValueForKeyFirstMatchWrong : ChangeSpec := { name := "fnValueForKeyFirstMatch", fn := fun _ => fun
  | [d1, d2, d3] => { results := [.lit (.bool false)], args := [d1, d2, d3] }
  | _ => none }
def FnValueForKeyFirstMatchWrongFalsely : Prop := fnValueForKeyFirstMatchRow.holds Try.pinned (OpenSpec.ofChange fnValueForKeyFirstMatchWrong)

/-- 'n011_65.FnParseDataURLCharacterised': WHATEVER THE INPUT: true; the input reads as it did. -/
def fnParseDataURLCharacterisedSpec : ChangeSpec := { name := "fnParseDataURLCharacterised", fn := fun _ => fun
  | [d] => { results := [.lit (.bool true)], args := [d] }
  | _ => none }
def fnParseDataURLCharacterisedRow : OpenClaim := { program := "ytnegfigjmjgknac", sum := "059444cb37d2d300427c6ad6a824bb32187c708a4f67fd6f9131ad47d2f6457d", func := "github.com/evanw/esbuild/n011_65.FnParseDataURLCharacterised", spec := "fnParseDataURLCharacterised", inPlace := ["internal/bytealg.IndexByteString"], apart := false }
def FnParseDataURLCharacterisedSaid : Prop := fnParseDataURLCharacterisedRow.holds Try.pinned (OpenSpec.ofChange fnParseDataURLCharacterisedSpec)

/-- ITS FALSE NEIGHBOUR: 'it returns false'. Refute it at one input. -/
def fnParseDataURLCharacterisedWrong : ChangeSpec := { name := "fnParseDataURLCharacterised", fn := fun _ => fun
  | [d] => { results := [.lit (.bool false)], args := [d] }
  | _ => none }
def FnParseDataURLCharacterisedWrongFalsely : Prop := fnParseDataURLCharacterisedRow.holds Try.pinned (OpenSpec.ofChange fnParseDataURLCharacterisedWrong)

/-- 'n011_98.FnKeysStartWithDotFirstKeyDecides': WHATEVER THE INPUT: true; the input reads as it did. -/
def fnKeysStartWithDotFirstKeyDecidesSpec : ChangeSpec := { name := "fnKeysStartWithDotFirstKeyDecides", fn := fun _ => fun
  | [d1, d2, d3] => { results := [.lit (.bool true)], args := [d1, d2, d3] }
  | _ => none }
def fnKeysStartWithDotFirstKeyDecidesRow : OpenClaim := { program := "ytnegfigjmjgknac", sum := "059444cb37d2d300427c6ad6a824bb32187c708a4f67fd6f9131ad47d2f6457d", func := "github.com/evanw/esbuild/n011_98.FnKeysStartWithDotFirstKeyDecides", spec := "fnKeysStartWithDotFirstKeyDecides", apart := false }
def FnKeysStartWithDotFirstKeyDecidesSaid : Prop := fnKeysStartWithDotFirstKeyDecidesRow.holds Try.pinned (OpenSpec.ofChange fnKeysStartWithDotFirstKeyDecidesSpec)

/-- ITS FALSE NEIGHBOUR: 'it returns false'. Refute it at one input. -/
def fnKeysStartWithDotFirstKeyDecidesWrong : ChangeSpec := { name := "fnKeysStartWithDotFirstKeyDecides", fn := fun _ => fun
  | [d1, d2, d3] => { results := [.lit (.bool false)], args := [d1, d2, d3] }
  | _ => none }
def FnKeysStartWithDotFirstKeyDecidesWrongFalsely : Prop := fnKeysStartWithDotFirstKeyDecidesRow.holds Try.pinned (OpenSpec.ofChange fnKeysStartWithDotFirstKeyDecidesWrong)

/- THE SECOND FORM. 'bulk': how many values and letters a reading holds, each counted each time it is reached (what is shared counts as often as it is met; a slice's spare places count too). A statement '..UptoSaid' is the law's where the arguments, and the package variables that the reading takes, are together of bulk at most 1048576: NARROWER than '..Said'. Prove '..Said' where nothing that the law and all that it calls make is longer than what came in: it says more and counts as full. Else prove '..UptoSaid'. A law counts once. -/
mutual
def uptoBulk {H : Type} : DataW H → Nat
  | .lit (.string bytes) => bytes.length + 1
  | .lit _ => 1
  | .nil => 1
  | .ptr d => uptoBulk d + 1
  | .slice elems spare => uptoBulkAll elems + uptoBulkAll spare + 1
  | .agg parts => uptoBulkAll parts + 1
  | .iface _ d => uptoBulk d + 1
  | .map entries => uptoBulkEntries entries + 1
  | .held _ => 1
def uptoBulkAll {H : Type} : List (DataW H) → Nat
  | [] => 0
  | d :: r => uptoBulk d + uptoBulkAll r
def uptoBulkEntries {H : Type} : List (Lit × DataW H) → Nat
  | [] => 0
  | x :: r => uptoBulkEntry x + uptoBulkEntries r
def uptoBulkEntry {H : Type} : Lit × DataW H → Nat
  | (.string bytes, d) => bytes.length + uptoBulk d + 1
  | (_, d) => uptoBulk d + 1
 end
def uptoSmall : (H : Type) → List (DataW H) → Bool := fun _ ds => decide (uptoBulkAll ds ≤ 1048576)
def OpenSpec.upto (s : _root_.Go.ChangeSpec) : _root_.Go.OpenSpec := { _root_.Go.OpenSpec.ofChange s with cond := some uptoSmall }

/-- 'n011_163.FnSwapExchangesExactlyTwo', WHERE WHAT IT READS IS OF BULK AT MOST 1048576: true; the input reads as it did. -/
def fnSwapExchangesExactlyTwoUptoRow : OpenClaim := { program := "ytnegfigjmjgknac", sum := "059444cb37d2d300427c6ad6a824bb32187c708a4f67fd6f9131ad47d2f6457d", func := "github.com/evanw/esbuild/n011_163.FnSwapExchangesExactlyTwo", spec := "fnSwapExchangesExactlyTwo", apart := false, narrowed := true }
def FnSwapExchangesExactlyTwoUptoSaid : Prop := fnSwapExchangesExactlyTwoUptoRow.holds Try.pinned (OpenSpec.upto fnSwapExchangesExactlyTwoSpec)

/-- 'n011_163.FnValueForKeyFirstMatch', WHERE WHAT IT READS IS OF BULK AT MOST 1048576: true; the input reads as it did. -/
def fnValueForKeyFirstMatchUptoRow : OpenClaim := { program := "ytnegfigjmjgknac", sum := "059444cb37d2d300427c6ad6a824bb32187c708a4f67fd6f9131ad47d2f6457d", func := "github.com/evanw/esbuild/n011_163.FnValueForKeyFirstMatch", spec := "fnValueForKeyFirstMatch", apart := false, narrowed := true }
def FnValueForKeyFirstMatchUptoSaid : Prop := fnValueForKeyFirstMatchUptoRow.holds Try.pinned (OpenSpec.upto fnValueForKeyFirstMatchSpec)

/-- 'n011_65.FnParseDataURLCharacterised', WHERE WHAT IT READS IS OF BULK AT MOST 1048576: true; the input reads as it did. -/
def fnParseDataURLCharacterisedUptoRow : OpenClaim := { program := "ytnegfigjmjgknac", sum := "059444cb37d2d300427c6ad6a824bb32187c708a4f67fd6f9131ad47d2f6457d", func := "github.com/evanw/esbuild/n011_65.FnParseDataURLCharacterised", spec := "fnParseDataURLCharacterised", inPlace := ["internal/bytealg.IndexByteString"], apart := false, narrowed := true }
def FnParseDataURLCharacterisedUptoSaid : Prop := fnParseDataURLCharacterisedUptoRow.holds Try.pinned (OpenSpec.upto fnParseDataURLCharacterisedSpec)

/-- 'n011_98.FnKeysStartWithDotFirstKeyDecides', WHERE WHAT IT READS IS OF BULK AT MOST 1048576: true; the input reads as it did. -/
def fnKeysStartWithDotFirstKeyDecidesUptoRow : OpenClaim := { program := "ytnegfigjmjgknac", sum := "059444cb37d2d300427c6ad6a824bb32187c708a4f67fd6f9131ad47d2f6457d", func := "github.com/evanw/esbuild/n011_98.FnKeysStartWithDotFirstKeyDecides", spec := "fnKeysStartWithDotFirstKeyDecides", apart := false, narrowed := true }
def FnKeysStartWithDotFirstKeyDecidesUptoSaid : Prop := fnKeysStartWithDotFirstKeyDecidesUptoRow.holds Try.pinned (OpenSpec.upto fnKeysStartWithDotFirstKeyDecidesSpec)

end Rows
end Go.Proofs.Ytnegfigjmjgknac
