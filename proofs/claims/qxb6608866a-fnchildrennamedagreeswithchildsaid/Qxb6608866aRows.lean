/-
  No cell of these rows narrows 'for every input' (looked for: loops, veiled, ifaces, maps, wideKeys, modest, calm, conditions, laid).
  DERIVED. THE GIVEN ROWS OF THIS SEAT. 5 by the template 'for every input the law returns true; each argument reads behind the call as it read before'; 0 by the template 'total and deterministic' (their statements: Qxb6608866aTotals.lean).
  GIVEN WITH THE SEED: the statements are not yours to turn. If you find one false, say at which input.
  Laid BY PROGRAM, IN A SANDBOX (cutbox-rows.mjs): the forced cells as the released guide's own fill.sh prints them over the translation 446809ec459cbec2… (all of the seat's roots in one cut). By AI agents, Wed Nov 11 2026. No macro, syntax, notation, axiom, sorry.
-/
import Derived.Test.Qxb6608866aChecked
import GoSem.Claim
import GoSem.ClaimJoined
import GoSem.ClaimMapViews
import Derived.JoinedTies
import Derived.KernelRfl
namespace Go.Proofs.Qxb6608866a
/- THE CELL 'sum', in the pinned program and in every row, IS THE sha256 OF THE DUMP (.gsa) THAT Qxb6608866aProg.lean LOADS. Nothing in Lean hashes anything: it is a label: what it is worth is what the hold of that sum in a sandbox is worth. -/
noncomputable def Try.pinned : Pinned := { name := "qxb6608866a", sum := "446809ec459cbec268fded2bafad0a68880152a677e77d0d1ba325750533e087", checked := Try.checked }
namespace Rows
def none {H : Type} : Left H := { results := [], args := [] }

/-- 'zzlaws_internal_schema_b1.FnExpressionTokensPadAndSplit': WHATEVER THE INPUT: true; the input reads as it did. -/
def fnExpressionTokensPadAndSplitSpec : ChangeSpec := { name := "fnExpressionTokensPadAndSplit", fn := fun _ => fun
  | [d] => { results := [.lit (.bool true)], args := [d] }
  | _ => none }
def fnExpressionTokensPadAndSplitRow : OpenClaim := { program := "qxb6608866a", sum := "446809ec459cbec268fded2bafad0a68880152a677e77d0d1ba325750533e087", func := "example.com/vltava/vltava/zzlaws_internal_schema_b1.FnExpressionTokensPadAndSplit", spec := "fnExpressionTokensPadAndSplit", inPlace := ["internal/bytealg.IndexByteString", "internal/bytealg.IndexString"], named := ["internal/bytealg.MaxLen"], plainKeys := false, apart := false }
def FnExpressionTokensPadAndSplitSaid : Prop := fnExpressionTokensPadAndSplitRow.holds Try.pinned (OpenSpec.ofChange fnExpressionTokensPadAndSplitSpec)

/-- ITS FALSE NEIGHBOUR: 'it returns false'. Refute it at one input. -/
def fnExpressionTokensPadAndSplitWrong : ChangeSpec := { name := "fnExpressionTokensPadAndSplit", fn := fun _ => fun
  | [d] => { results := [.lit (.bool false)], args := [d] }
  | _ => none }
def FnExpressionTokensPadAndSplitWrongFalsely : Prop := fnExpressionTokensPadAndSplitRow.holds Try.pinned (OpenSpec.ofChange fnExpressionTokensPadAndSplitWrong)

/-- 'zzlaws_internal_schema_b1.FnExpressionTokensSplitAtSeparator': WHATEVER THE INPUT: true; the input reads as it did. -/
def fnExpressionTokensSplitAtSeparatorSpec : ChangeSpec := { name := "fnExpressionTokensSplitAtSeparator", fn := fun _ => fun
  | [d1, d2, d3] => { results := [.lit (.bool true)], args := [d1, d2, d3] }
  | _ => none }
def fnExpressionTokensSplitAtSeparatorRow : OpenClaim := { program := "qxb6608866a", sum := "446809ec459cbec268fded2bafad0a68880152a677e77d0d1ba325750533e087", func := "example.com/vltava/vltava/zzlaws_internal_schema_b1.FnExpressionTokensSplitAtSeparator", spec := "fnExpressionTokensSplitAtSeparator", inPlace := ["internal/bytealg.IndexByteString", "internal/bytealg.IndexString"], named := ["internal/bytealg.MaxLen"], plainKeys := false, apart := false }
def FnExpressionTokensSplitAtSeparatorSaid : Prop := fnExpressionTokensSplitAtSeparatorRow.holds Try.pinned (OpenSpec.ofChange fnExpressionTokensSplitAtSeparatorSpec)

/-- ITS FALSE NEIGHBOUR: 'it returns false'. Refute it at one input. -/
def fnExpressionTokensSplitAtSeparatorWrong : ChangeSpec := { name := "fnExpressionTokensSplitAtSeparator", fn := fun _ => fun
  | [d1, d2, d3] => { results := [.lit (.bool false)], args := [d1, d2, d3] }
  | _ => none }
def FnExpressionTokensSplitAtSeparatorWrongFalsely : Prop := fnExpressionTokensSplitAtSeparatorRow.holds Try.pinned (OpenSpec.ofChange fnExpressionTokensSplitAtSeparatorWrong)

/-- 'zzlaws_internal_schema_b1.FnChildrenNamedPartitionsChildren': WHATEVER THE INPUT: true; the input reads as it did. -/
def fnChildrenNamedPartitionsChildrenSpec : ChangeSpec := { name := "fnChildrenNamedPartitionsChildren", fn := fun _ => fun
  | [d1, d2, d3] => { results := [.lit (.bool true)], args := [d1, d2, d3] }
  | _ => none }
def fnChildrenNamedPartitionsChildrenRow : OpenClaim := { program := "qxb6608866a", sum := "446809ec459cbec268fded2bafad0a68880152a677e77d0d1ba325750533e087", func := "example.com/vltava/vltava/zzlaws_internal_schema_b1.FnChildrenNamedPartitionsChildren", spec := "fnChildrenNamedPartitionsChildren", plainKeys := false, apart := false }
def FnChildrenNamedPartitionsChildrenSaid : Prop := fnChildrenNamedPartitionsChildrenRow.holds Try.pinned (OpenSpec.ofChange fnChildrenNamedPartitionsChildrenSpec)

/-- ITS FALSE NEIGHBOUR: 'it returns false'. Refute it at one input. -/
def fnChildrenNamedPartitionsChildrenWrong : ChangeSpec := { name := "fnChildrenNamedPartitionsChildren", fn := fun _ => fun
  | [d1, d2, d3] => { results := [.lit (.bool false)], args := [d1, d2, d3] }
  | _ => none }
def FnChildrenNamedPartitionsChildrenWrongFalsely : Prop := fnChildrenNamedPartitionsChildrenRow.holds Try.pinned (OpenSpec.ofChange fnChildrenNamedPartitionsChildrenWrong)

/-- 'zzlaws_internal_schema_b1.FnChildrenNamedAgreesWithChild': WHATEVER THE INPUT: true; the input reads as it did. -/
def fnChildrenNamedAgreesWithChildSpec : ChangeSpec := { name := "fnChildrenNamedAgreesWithChild", fn := fun _ => fun
  | [d1, d2, d3] => { results := [.lit (.bool true)], args := [d1, d2, d3] }
  | _ => none }
def fnChildrenNamedAgreesWithChildRow : OpenClaim := { program := "qxb6608866a", sum := "446809ec459cbec268fded2bafad0a68880152a677e77d0d1ba325750533e087", func := "example.com/vltava/vltava/zzlaws_internal_schema_b1.FnChildrenNamedAgreesWithChild", spec := "fnChildrenNamedAgreesWithChild", plainKeys := false, apart := false }
def FnChildrenNamedAgreesWithChildSaid : Prop := fnChildrenNamedAgreesWithChildRow.holds Try.pinned (OpenSpec.ofChange fnChildrenNamedAgreesWithChildSpec)

/-- ITS FALSE NEIGHBOUR: 'it returns false'. Refute it at one input. -/
def fnChildrenNamedAgreesWithChildWrong : ChangeSpec := { name := "fnChildrenNamedAgreesWithChild", fn := fun _ => fun
  | [d1, d2, d3] => { results := [.lit (.bool false)], args := [d1, d2, d3] }
  | _ => none }
def FnChildrenNamedAgreesWithChildWrongFalsely : Prop := fnChildrenNamedAgreesWithChildRow.holds Try.pinned (OpenSpec.ofChange fnChildrenNamedAgreesWithChildWrong)

/-- 'zzlaws_internal_schema_b1.FnResolvedThroughLeafrefWrapper': WHATEVER THE INPUT: true; the input reads as it did. -/
def fnResolvedThroughLeafrefWrapperSpec : ChangeSpec := { name := "fnResolvedThroughLeafrefWrapper", fn := fun _ => fun
  | [d1, d2, d3] => { results := [.lit (.bool true)], args := [d1, d2, d3] }
  | _ => none }
def fnResolvedThroughLeafrefWrapperRow : OpenClaim := { program := "qxb6608866a", sum := "446809ec459cbec268fded2bafad0a68880152a677e77d0d1ba325750533e087", func := "example.com/vltava/vltava/zzlaws_internal_schema_b1.FnResolvedThroughLeafrefWrapper", spec := "fnResolvedThroughLeafrefWrapper", plainKeys := false, apart := false }
def FnResolvedThroughLeafrefWrapperSaid : Prop := fnResolvedThroughLeafrefWrapperRow.holds Try.pinned (OpenSpec.ofChange fnResolvedThroughLeafrefWrapperSpec)

/-- ITS FALSE NEIGHBOUR: 'it returns false'. Refute it at one input. -/
def fnResolvedThroughLeafrefWrapperWrong : ChangeSpec := { name := "fnResolvedThroughLeafrefWrapper", fn := fun _ => fun
  | [d1, d2, d3] => { results := [.lit (.bool false)], args := [d1, d2, d3] }
  | _ => none }
def FnResolvedThroughLeafrefWrapperWrongFalsely : Prop := fnResolvedThroughLeafrefWrapperRow.holds Try.pinned (OpenSpec.ofChange fnResolvedThroughLeafrefWrapperWrong)

end Rows
end Go.Proofs.Qxb6608866a
