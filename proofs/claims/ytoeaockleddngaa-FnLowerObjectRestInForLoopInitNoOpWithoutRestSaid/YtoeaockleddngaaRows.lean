/-
  No cell of these rows narrows 'for every input' (looked for: loops, veiled, ifaces, maps, wideKeys, modest, calm, conditions, laid).
  DERIVED. THE GIVEN ROWS OF THIS SEAT. 6 by the template 'for every input the law returns true; each argument reads behind the call as it read before'; 0 by the template 'total and deterministic' (their statements: YtoeaockleddngaaTotals.lean).
  GIVEN WITH THE SEED: the statements are not yours to turn. If you find one false, say at which input.
  Laid BY PROGRAM, IN A SANDBOX (cutbox-rows.mjs): the forced cells as the released guide's own fill.sh prints them over the translation 8f2c991ffd4e6aea… (all of the seat's roots in one cut). By AI agents, Wed Nov 11 2026. No macro, syntax, notation, axiom, sorry.
-/
import Derived.Test.YtoeaockleddngaaChecked
import GoSem.Claim
import GoSem.ClaimJoined
import GoSem.ClaimMapViews
import Derived.JoinedTies
import Derived.KernelRfl
namespace Go.Proofs.Ytoeaockleddngaa
/- THE CELL 'sum', in the pinned program and in every row, IS THE sha256 OF THE DUMP (.gsa) THAT YtoeaockleddngaaProg.lean LOADS. Nothing in Lean hashes anything: it is a label: what it is worth is what the hold of that sum in a sandbox is worth. -/
noncomputable def Try.pinned : Pinned := { name := "ytoeaockleddngaa", sum := "8f2c991ffd4e6aea2890a2419da9f3f0ff6a240e93d44c717b1a33c9ff5e2689", checked := Try.checked }
namespace Rows
def none {H : Type} : Left H := { results := [], args := [] }

/-- 'n011_129.FnLowerObjectRestInDeclsIdentityWhenFeatureSupported': WHATEVER THE INPUT: true; the input reads as it did. -/
def fnLowerObjectRestInDeclsIdentityWhenFeatureSupportedSpec : ChangeSpec := { name := "fnLowerObjectRestInDeclsIdentityWhenFeatureSupported", fn := fun _ => fun
  | [d1, d2, d3, d4, d5] => { results := [.lit (.bool true)], args := [d1, d2, d3, d4, d5] }
  | _ => none }
def fnLowerObjectRestInDeclsIdentityWhenFeatureSupportedRow : OpenClaim := { program := "ytoeaockleddngaa", sum := "8f2c991ffd4e6aea2890a2419da9f3f0ff6a240e93d44c717b1a33c9ff5e2689", func := "github.com/evanw/esbuild/n011_129.FnLowerObjectRestInDeclsIdentityWhenFeatureSupported", spec := "fnLowerObjectRestInDeclsIdentityWhenFeatureSupported", inPlace := ["gosem.stop:github.com/evanw/esbuild/internal/js_ast.ConvertBindingToExpr", "gosem.stop:(*github.com/evanw/esbuild/internal/js_parser.parser).lowerObjectRestToDecls"], recurses := true, plainKeys := false, apart := false }
def FnLowerObjectRestInDeclsIdentityWhenFeatureSupportedSaid : Prop := fnLowerObjectRestInDeclsIdentityWhenFeatureSupportedRow.holds Try.pinned (OpenSpec.ofChange fnLowerObjectRestInDeclsIdentityWhenFeatureSupportedSpec)

/-- ITS FALSE NEIGHBOUR: 'it returns false'. Refute it at one input. -/
def fnLowerObjectRestInDeclsIdentityWhenFeatureSupportedWrong : ChangeSpec := { name := "fnLowerObjectRestInDeclsIdentityWhenFeatureSupported", fn := fun _ => fun
  | [d1, d2, d3, d4, d5] => { results := [.lit (.bool false)], args := [d1, d2, d3, d4, d5] }
  | _ => none }
def FnLowerObjectRestInDeclsIdentityWhenFeatureSupportedWrongFalsely : Prop := fnLowerObjectRestInDeclsIdentityWhenFeatureSupportedRow.holds Try.pinned (OpenSpec.ofChange fnLowerObjectRestInDeclsIdentityWhenFeatureSupportedWrong)

/-- 'n011_129.FnLowerObjectRestInDeclsIdentityWithoutInitialisedRest': WHATEVER THE INPUT: true; the input reads as it did. -/
def fnLowerObjectRestInDeclsIdentityWithoutInitialisedRestSpec : ChangeSpec := { name := "fnLowerObjectRestInDeclsIdentityWithoutInitialisedRest", fn := fun _ => fun
  | [d1, d2, d3, d4, d5] => { results := [.lit (.bool true)], args := [d1, d2, d3, d4, d5] }
  | _ => none }
def fnLowerObjectRestInDeclsIdentityWithoutInitialisedRestRow : OpenClaim := { program := "ytoeaockleddngaa", sum := "8f2c991ffd4e6aea2890a2419da9f3f0ff6a240e93d44c717b1a33c9ff5e2689", func := "github.com/evanw/esbuild/n011_129.FnLowerObjectRestInDeclsIdentityWithoutInitialisedRest", spec := "fnLowerObjectRestInDeclsIdentityWithoutInitialisedRest", inPlace := ["gosem.stop:github.com/evanw/esbuild/internal/js_ast.ConvertBindingToExpr", "gosem.stop:(*github.com/evanw/esbuild/internal/js_parser.parser).lowerObjectRestToDecls"], recurses := true, plainKeys := false, apart := false }
def FnLowerObjectRestInDeclsIdentityWithoutInitialisedRestSaid : Prop := fnLowerObjectRestInDeclsIdentityWithoutInitialisedRestRow.holds Try.pinned (OpenSpec.ofChange fnLowerObjectRestInDeclsIdentityWithoutInitialisedRestSpec)

/-- ITS FALSE NEIGHBOUR: 'it returns false'. Refute it at one input. -/
def fnLowerObjectRestInDeclsIdentityWithoutInitialisedRestWrong : ChangeSpec := { name := "fnLowerObjectRestInDeclsIdentityWithoutInitialisedRest", fn := fun _ => fun
  | [d1, d2, d3, d4, d5] => { results := [.lit (.bool false)], args := [d1, d2, d3, d4, d5] }
  | _ => none }
def FnLowerObjectRestInDeclsIdentityWithoutInitialisedRestWrongFalsely : Prop := fnLowerObjectRestInDeclsIdentityWithoutInitialisedRestRow.holds Try.pinned (OpenSpec.ofChange fnLowerObjectRestInDeclsIdentityWithoutInitialisedRestWrong)

/-- 'n011_129.FnLowerObjectRestInCatchBindingNoOpWhenFeatureSupported': WHATEVER THE INPUT: true; the input reads as it did. -/
def fnLowerObjectRestInCatchBindingNoOpWhenFeatureSupportedSpec : ChangeSpec := { name := "fnLowerObjectRestInCatchBindingNoOpWhenFeatureSupported", fn := fun _ => fun
  | [d1, d2, d3, d4, d5, d6] => { results := [.lit (.bool true)], args := [d1, d2, d3, d4, d5, d6] }
  | _ => none }
def fnLowerObjectRestInCatchBindingNoOpWhenFeatureSupportedRow : OpenClaim := { program := "ytoeaockleddngaa", sum := "8f2c991ffd4e6aea2890a2419da9f3f0ff6a240e93d44c717b1a33c9ff5e2689", func := "github.com/evanw/esbuild/n011_129.FnLowerObjectRestInCatchBindingNoOpWhenFeatureSupported", spec := "fnLowerObjectRestInCatchBindingNoOpWhenFeatureSupported", inPlace := ["gosem.stop:(*github.com/evanw/esbuild/internal/js_parser.parser).generateTempRef", "gosem.stop:(*github.com/evanw/esbuild/internal/js_parser.parser).recordUsage", "gosem.stop:github.com/evanw/esbuild/internal/js_ast.ConvertBindingToExpr", "gosem.stop:(*github.com/evanw/esbuild/internal/js_parser.parser).lowerObjectRestToDecls"], recurses := true, plainKeys := false, apart := false }
def FnLowerObjectRestInCatchBindingNoOpWhenFeatureSupportedSaid : Prop := fnLowerObjectRestInCatchBindingNoOpWhenFeatureSupportedRow.holds Try.pinned (OpenSpec.ofChange fnLowerObjectRestInCatchBindingNoOpWhenFeatureSupportedSpec)

/-- ITS FALSE NEIGHBOUR: 'it returns false'. Refute it at one input. -/
def fnLowerObjectRestInCatchBindingNoOpWhenFeatureSupportedWrong : ChangeSpec := { name := "fnLowerObjectRestInCatchBindingNoOpWhenFeatureSupported", fn := fun _ => fun
  | [d1, d2, d3, d4, d5, d6] => { results := [.lit (.bool false)], args := [d1, d2, d3, d4, d5, d6] }
  | _ => none }
def FnLowerObjectRestInCatchBindingNoOpWhenFeatureSupportedWrongFalsely : Prop := fnLowerObjectRestInCatchBindingNoOpWhenFeatureSupportedRow.holds Try.pinned (OpenSpec.ofChange fnLowerObjectRestInCatchBindingNoOpWhenFeatureSupportedWrong)

/-- 'n011_129.FnLowerObjectRestInCatchBindingNoOpWithoutRest': WHATEVER THE INPUT: true; the input reads as it did. -/
def fnLowerObjectRestInCatchBindingNoOpWithoutRestSpec : ChangeSpec := { name := "fnLowerObjectRestInCatchBindingNoOpWithoutRest", fn := fun _ => fun
  | [d1, d2, d3, d4, d5, d6] => { results := [.lit (.bool true)], args := [d1, d2, d3, d4, d5, d6] }
  | _ => none }
def fnLowerObjectRestInCatchBindingNoOpWithoutRestRow : OpenClaim := { program := "ytoeaockleddngaa", sum := "8f2c991ffd4e6aea2890a2419da9f3f0ff6a240e93d44c717b1a33c9ff5e2689", func := "github.com/evanw/esbuild/n011_129.FnLowerObjectRestInCatchBindingNoOpWithoutRest", spec := "fnLowerObjectRestInCatchBindingNoOpWithoutRest", inPlace := ["gosem.stop:(*github.com/evanw/esbuild/internal/js_parser.parser).generateTempRef", "gosem.stop:(*github.com/evanw/esbuild/internal/js_parser.parser).recordUsage", "gosem.stop:github.com/evanw/esbuild/internal/js_ast.ConvertBindingToExpr", "gosem.stop:(*github.com/evanw/esbuild/internal/js_parser.parser).lowerObjectRestToDecls"], recurses := true, plainKeys := false, apart := false }
def FnLowerObjectRestInCatchBindingNoOpWithoutRestSaid : Prop := fnLowerObjectRestInCatchBindingNoOpWithoutRestRow.holds Try.pinned (OpenSpec.ofChange fnLowerObjectRestInCatchBindingNoOpWithoutRestSpec)

/-- ITS FALSE NEIGHBOUR: 'it returns false'. Refute it at one input. -/
def fnLowerObjectRestInCatchBindingNoOpWithoutRestWrong : ChangeSpec := { name := "fnLowerObjectRestInCatchBindingNoOpWithoutRest", fn := fun _ => fun
  | [d1, d2, d3, d4, d5, d6] => { results := [.lit (.bool false)], args := [d1, d2, d3, d4, d5, d6] }
  | _ => none }
def FnLowerObjectRestInCatchBindingNoOpWithoutRestWrongFalsely : Prop := fnLowerObjectRestInCatchBindingNoOpWithoutRestRow.holds Try.pinned (OpenSpec.ofChange fnLowerObjectRestInCatchBindingNoOpWithoutRestWrong)

/-- 'n011_129.FnLowerObjectRestInForLoopInitNoOpWhenFeatureSupported': WHATEVER THE INPUT: true; the input reads as it did. -/
def fnLowerObjectRestInForLoopInitNoOpWhenFeatureSupportedSpec : ChangeSpec := { name := "fnLowerObjectRestInForLoopInitNoOpWhenFeatureSupported", fn := fun _ => fun
  | [d1, d2, d3, d4, d5, d6] => { results := [.lit (.bool true)], args := [d1, d2, d3, d4, d5, d6] }
  | _ => none }
def fnLowerObjectRestInForLoopInitNoOpWhenFeatureSupportedRow : OpenClaim := { program := "ytoeaockleddngaa", sum := "8f2c991ffd4e6aea2890a2419da9f3f0ff6a240e93d44c717b1a33c9ff5e2689", func := "github.com/evanw/esbuild/n011_129.FnLowerObjectRestInForLoopInitNoOpWhenFeatureSupported", spec := "fnLowerObjectRestInForLoopInitNoOpWhenFeatureSupported", inPlace := ["gosem.stop:(*github.com/evanw/esbuild/internal/js_parser.parser).generateTempRef", "gosem.stop:(*github.com/evanw/esbuild/internal/js_parser.parser).lowerAssign", "gosem.stop:(*github.com/evanw/esbuild/internal/js_parser.parser).recordUsage", "gosem.stop:github.com/evanw/esbuild/internal/js_ast.ConvertBindingToExpr", "gosem.stop:(*github.com/evanw/esbuild/internal/js_parser.parser).lowerObjectRestToDecls"], recurses := true, plainKeys := false, apart := false }
def FnLowerObjectRestInForLoopInitNoOpWhenFeatureSupportedSaid : Prop := fnLowerObjectRestInForLoopInitNoOpWhenFeatureSupportedRow.holds Try.pinned (OpenSpec.ofChange fnLowerObjectRestInForLoopInitNoOpWhenFeatureSupportedSpec)

/-- ITS FALSE NEIGHBOUR: 'it returns false'. Refute it at one input. -/
def fnLowerObjectRestInForLoopInitNoOpWhenFeatureSupportedWrong : ChangeSpec := { name := "fnLowerObjectRestInForLoopInitNoOpWhenFeatureSupported", fn := fun _ => fun
  | [d1, d2, d3, d4, d5, d6] => { results := [.lit (.bool false)], args := [d1, d2, d3, d4, d5, d6] }
  | _ => none }
def FnLowerObjectRestInForLoopInitNoOpWhenFeatureSupportedWrongFalsely : Prop := fnLowerObjectRestInForLoopInitNoOpWhenFeatureSupportedRow.holds Try.pinned (OpenSpec.ofChange fnLowerObjectRestInForLoopInitNoOpWhenFeatureSupportedWrong)

/-- 'n011_129.FnLowerObjectRestInForLoopInitNoOpWithoutRest': WHATEVER THE INPUT: true; the input reads as it did. -/
def fnLowerObjectRestInForLoopInitNoOpWithoutRestSpec : ChangeSpec := { name := "fnLowerObjectRestInForLoopInitNoOpWithoutRest", fn := fun _ => fun
  | [d1, d2, d3, d4, d5, d6] => { results := [.lit (.bool true)], args := [d1, d2, d3, d4, d5, d6] }
  | _ => none }
def fnLowerObjectRestInForLoopInitNoOpWithoutRestRow : OpenClaim := { program := "ytoeaockleddngaa", sum := "8f2c991ffd4e6aea2890a2419da9f3f0ff6a240e93d44c717b1a33c9ff5e2689", func := "github.com/evanw/esbuild/n011_129.FnLowerObjectRestInForLoopInitNoOpWithoutRest", spec := "fnLowerObjectRestInForLoopInitNoOpWithoutRest", inPlace := ["gosem.stop:(*github.com/evanw/esbuild/internal/js_parser.parser).generateTempRef", "gosem.stop:(*github.com/evanw/esbuild/internal/js_parser.parser).lowerAssign", "gosem.stop:(*github.com/evanw/esbuild/internal/js_parser.parser).recordUsage", "gosem.stop:github.com/evanw/esbuild/internal/js_ast.ConvertBindingToExpr", "gosem.stop:(*github.com/evanw/esbuild/internal/js_parser.parser).lowerObjectRestToDecls"], recurses := true, plainKeys := false, apart := false }
def FnLowerObjectRestInForLoopInitNoOpWithoutRestSaid : Prop := fnLowerObjectRestInForLoopInitNoOpWithoutRestRow.holds Try.pinned (OpenSpec.ofChange fnLowerObjectRestInForLoopInitNoOpWithoutRestSpec)

/-- ITS FALSE NEIGHBOUR: 'it returns false'. Refute it at one input. -/
def fnLowerObjectRestInForLoopInitNoOpWithoutRestWrong : ChangeSpec := { name := "fnLowerObjectRestInForLoopInitNoOpWithoutRest", fn := fun _ => fun
  | [d1, d2, d3, d4, d5, d6] => { results := [.lit (.bool false)], args := [d1, d2, d3, d4, d5, d6] }
  | _ => none }
def FnLowerObjectRestInForLoopInitNoOpWithoutRestWrongFalsely : Prop := fnLowerObjectRestInForLoopInitNoOpWithoutRestRow.holds Try.pinned (OpenSpec.ofChange fnLowerObjectRestInForLoopInitNoOpWithoutRestWrong)

/- THE SECOND FORM. 'bulk': how many values and letters a reading holds, each counted each time it is reached (what is shared counts as often as it is met; a slice's spare places count too). A statement '..UptoSaid' is the law's where the arguments, and the package variables that the reading takes, are together of bulk at most 1048576: NARROWER than '..Said'. Prove '..Said' where nothing that the law and all that it calls make is longer than what came in: it says more and counts as full. Else prove '..UptoSaid'. A law counts once. -/
mutual
def uptoBulk {H : Type} : DataW H → Nat
  | .lit (.string bytes) => bytes.length + 1
  | .lit _ => 1
  | .nil => 1
  | .ptr d => uptoBulk d + 1
  | .slice elems spare => uptoBulkAll elems + uptoBulkAll spare + 1
  | .agg parts => uptoBulkAll parts + 1
  | .iface _ d => uptoBulk d + 1
  | .map entries => uptoBulkEntries entries + 1
  | .held _ => 1
def uptoBulkAll {H : Type} : List (DataW H) → Nat
  | [] => 0
  | d :: r => uptoBulk d + uptoBulkAll r
def uptoBulkEntries {H : Type} : List (Lit × DataW H) → Nat
  | [] => 0
  | x :: r => uptoBulkEntry x + uptoBulkEntries r
def uptoBulkEntry {H : Type} : Lit × DataW H → Nat
  | (.string bytes, d) => bytes.length + uptoBulk d + 1
  | (_, d) => uptoBulk d + 1
 end
def uptoSmall : (H : Type) → List (DataW H) → Bool := fun _ ds => decide (uptoBulkAll ds ≤ 1048576)
def OpenSpec.upto (s : _root_.Go.ChangeSpec) : _root_.Go.OpenSpec := { _root_.Go.OpenSpec.ofChange s with cond := some uptoSmall }

/-- 'n011_129.FnLowerObjectRestInDeclsIdentityWhenFeatureSupported', WHERE WHAT IT READS IS OF BULK AT MOST 1048576: true; the input reads as it did. -/
def fnLowerObjectRestInDeclsIdentityWhenFeatureSupportedUptoRow : OpenClaim := { program := "ytoeaockleddngaa", sum := "8f2c991ffd4e6aea2890a2419da9f3f0ff6a240e93d44c717b1a33c9ff5e2689", func := "github.com/evanw/esbuild/n011_129.FnLowerObjectRestInDeclsIdentityWhenFeatureSupported", spec := "fnLowerObjectRestInDeclsIdentityWhenFeatureSupported", inPlace := ["gosem.stop:github.com/evanw/esbuild/internal/js_ast.ConvertBindingToExpr", "gosem.stop:(*github.com/evanw/esbuild/internal/js_parser.parser).lowerObjectRestToDecls"], recurses := true, plainKeys := false, apart := false, narrowed := true }
def FnLowerObjectRestInDeclsIdentityWhenFeatureSupportedUptoSaid : Prop := fnLowerObjectRestInDeclsIdentityWhenFeatureSupportedUptoRow.holds Try.pinned (OpenSpec.upto fnLowerObjectRestInDeclsIdentityWhenFeatureSupportedSpec)

/-- 'n011_129.FnLowerObjectRestInDeclsIdentityWithoutInitialisedRest', WHERE WHAT IT READS IS OF BULK AT MOST 1048576: true; the input reads as it did. -/
def fnLowerObjectRestInDeclsIdentityWithoutInitialisedRestUptoRow : OpenClaim := { program := "ytoeaockleddngaa", sum := "8f2c991ffd4e6aea2890a2419da9f3f0ff6a240e93d44c717b1a33c9ff5e2689", func := "github.com/evanw/esbuild/n011_129.FnLowerObjectRestInDeclsIdentityWithoutInitialisedRest", spec := "fnLowerObjectRestInDeclsIdentityWithoutInitialisedRest", inPlace := ["gosem.stop:github.com/evanw/esbuild/internal/js_ast.ConvertBindingToExpr", "gosem.stop:(*github.com/evanw/esbuild/internal/js_parser.parser).lowerObjectRestToDecls"], recurses := true, plainKeys := false, apart := false, narrowed := true }
def FnLowerObjectRestInDeclsIdentityWithoutInitialisedRestUptoSaid : Prop := fnLowerObjectRestInDeclsIdentityWithoutInitialisedRestUptoRow.holds Try.pinned (OpenSpec.upto fnLowerObjectRestInDeclsIdentityWithoutInitialisedRestSpec)

/-- 'n011_129.FnLowerObjectRestInCatchBindingNoOpWhenFeatureSupported', WHERE WHAT IT READS IS OF BULK AT MOST 1048576: true; the input reads as it did. -/
def fnLowerObjectRestInCatchBindingNoOpWhenFeatureSupportedUptoRow : OpenClaim := { program := "ytoeaockleddngaa", sum := "8f2c991ffd4e6aea2890a2419da9f3f0ff6a240e93d44c717b1a33c9ff5e2689", func := "github.com/evanw/esbuild/n011_129.FnLowerObjectRestInCatchBindingNoOpWhenFeatureSupported", spec := "fnLowerObjectRestInCatchBindingNoOpWhenFeatureSupported", inPlace := ["gosem.stop:(*github.com/evanw/esbuild/internal/js_parser.parser).generateTempRef", "gosem.stop:(*github.com/evanw/esbuild/internal/js_parser.parser).recordUsage", "gosem.stop:github.com/evanw/esbuild/internal/js_ast.ConvertBindingToExpr", "gosem.stop:(*github.com/evanw/esbuild/internal/js_parser.parser).lowerObjectRestToDecls"], recurses := true, plainKeys := false, apart := false, narrowed := true }
def FnLowerObjectRestInCatchBindingNoOpWhenFeatureSupportedUptoSaid : Prop := fnLowerObjectRestInCatchBindingNoOpWhenFeatureSupportedUptoRow.holds Try.pinned (OpenSpec.upto fnLowerObjectRestInCatchBindingNoOpWhenFeatureSupportedSpec)

/-- 'n011_129.FnLowerObjectRestInCatchBindingNoOpWithoutRest', WHERE WHAT IT READS IS OF BULK AT MOST 1048576: true; the input reads as it did. -/
def fnLowerObjectRestInCatchBindingNoOpWithoutRestUptoRow : OpenClaim := { program := "ytoeaockleddngaa", sum := "8f2c991ffd4e6aea2890a2419da9f3f0ff6a240e93d44c717b1a33c9ff5e2689", func := "github.com/evanw/esbuild/n011_129.FnLowerObjectRestInCatchBindingNoOpWithoutRest", spec := "fnLowerObjectRestInCatchBindingNoOpWithoutRest", inPlace := ["gosem.stop:(*github.com/evanw/esbuild/internal/js_parser.parser).generateTempRef", "gosem.stop:(*github.com/evanw/esbuild/internal/js_parser.parser).recordUsage", "gosem.stop:github.com/evanw/esbuild/internal/js_ast.ConvertBindingToExpr", "gosem.stop:(*github.com/evanw/esbuild/internal/js_parser.parser).lowerObjectRestToDecls"], recurses := true, plainKeys := false, apart := false, narrowed := true }
def FnLowerObjectRestInCatchBindingNoOpWithoutRestUptoSaid : Prop := fnLowerObjectRestInCatchBindingNoOpWithoutRestUptoRow.holds Try.pinned (OpenSpec.upto fnLowerObjectRestInCatchBindingNoOpWithoutRestSpec)

/-- 'n011_129.FnLowerObjectRestInForLoopInitNoOpWhenFeatureSupported', WHERE WHAT IT READS IS OF BULK AT MOST 1048576: true; the input reads as it did. -/
def fnLowerObjectRestInForLoopInitNoOpWhenFeatureSupportedUptoRow : OpenClaim := { program := "ytoeaockleddngaa", sum := "8f2c991ffd4e6aea2890a2419da9f3f0ff6a240e93d44c717b1a33c9ff5e2689", func := "github.com/evanw/esbuild/n011_129.FnLowerObjectRestInForLoopInitNoOpWhenFeatureSupported", spec := "fnLowerObjectRestInForLoopInitNoOpWhenFeatureSupported", inPlace := ["gosem.stop:(*github.com/evanw/esbuild/internal/js_parser.parser).generateTempRef", "gosem.stop:(*github.com/evanw/esbuild/internal/js_parser.parser).lowerAssign", "gosem.stop:(*github.com/evanw/esbuild/internal/js_parser.parser).recordUsage", "gosem.stop:github.com/evanw/esbuild/internal/js_ast.ConvertBindingToExpr", "gosem.stop:(*github.com/evanw/esbuild/internal/js_parser.parser).lowerObjectRestToDecls"], recurses := true, plainKeys := false, apart := false, narrowed := true }
def FnLowerObjectRestInForLoopInitNoOpWhenFeatureSupportedUptoSaid : Prop := fnLowerObjectRestInForLoopInitNoOpWhenFeatureSupportedUptoRow.holds Try.pinned (OpenSpec.upto fnLowerObjectRestInForLoopInitNoOpWhenFeatureSupportedSpec)

/-- 'n011_129.FnLowerObjectRestInForLoopInitNoOpWithoutRest', WHERE WHAT IT READS IS OF BULK AT MOST 1048576: true; the input reads as it did. -/
def fnLowerObjectRestInForLoopInitNoOpWithoutRestUptoRow : OpenClaim := { program := "ytoeaockleddngaa", sum := "8f2c991ffd4e6aea2890a2419da9f3f0ff6a240e93d44c717b1a33c9ff5e2689", func := "github.com/evanw/esbuild/n011_129.FnLowerObjectRestInForLoopInitNoOpWithoutRest", spec := "fnLowerObjectRestInForLoopInitNoOpWithoutRest", inPlace := ["gosem.stop:(*github.com/evanw/esbuild/internal/js_parser.parser).generateTempRef", "gosem.stop:(*github.com/evanw/esbuild/internal/js_parser.parser).lowerAssign", "gosem.stop:(*github.com/evanw/esbuild/internal/js_parser.parser).recordUsage", "gosem.stop:github.com/evanw/esbuild/internal/js_ast.ConvertBindingToExpr", "gosem.stop:(*github.com/evanw/esbuild/internal/js_parser.parser).lowerObjectRestToDecls"], recurses := true, plainKeys := false, apart := false, narrowed := true }
def FnLowerObjectRestInForLoopInitNoOpWithoutRestUptoSaid : Prop := fnLowerObjectRestInForLoopInitNoOpWithoutRestUptoRow.holds Try.pinned (OpenSpec.upto fnLowerObjectRestInForLoopInitNoOpWithoutRestSpec)

end Rows
end Go.Proofs.Ytoeaockleddngaa
