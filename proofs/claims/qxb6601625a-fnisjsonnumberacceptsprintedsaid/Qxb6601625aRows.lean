/-
  No cell of these rows narrows 'for every input' (looked for: loops, veiled, ifaces, maps, wideKeys, modest, calm, conditions, laid).
  DERIVED. THE GIVEN ROWS OF THIS SEAT. 7 by the template 'for every input the law returns true; each argument reads behind the call as it read before'; 0 by the template 'total and deterministic' (their statements: Qxb6601625aTotals.lean).
  GIVEN WITH THE SEED: the statements are not yours to turn. If you find one false, say at which input.
  Laid BY PROGRAM, IN A SANDBOX (cutbox-rows.mjs): the forced cells as the released guide's own fill.sh prints them over the translation 76f99eb9f1a27f55… (all of the seat's roots in one cut). By AI agents, Wed Nov 11 2026. No macro, syntax, notation, axiom, sorry.
-/
import Derived.Test.Qxb6601625aChecked
import GoSem.Claim
import GoSem.ClaimJoined
import GoSem.ClaimMapViews
import Derived.JoinedTies
import Derived.KernelRfl
namespace Go.Proofs.Qxb6601625a
/- THE CELL 'sum', in the pinned program and in every row, IS THE sha256 OF THE DUMP (.gsa) THAT Qxb6601625aProg.lean LOADS. Nothing in Lean hashes anything: it is a label: what it is worth is what the hold of that sum in a sandbox is worth. -/
noncomputable def Try.pinned : Pinned := { name := "qxb6601625a", sum := "76f99eb9f1a27f55382e0bbece96f035a755b00a7ac52fee247a523005c8633d", checked := Try.checked }
namespace Rows
def none {H : Type} : Left H := { results := [], args := [] }

/-- 'zzlaws_pkg_tally_b1.FnIsJSONNumberMatchesAutomaton': WHATEVER THE INPUT: true; the input reads as it did. -/
def fnIsJSONNumberMatchesAutomatonSpec : ChangeSpec := { name := "fnIsJSONNumberMatchesAutomaton", fn := fun _ => fun
  | [d] => { results := [.lit (.bool true)], args := [d] }
  | _ => none }
def fnIsJSONNumberMatchesAutomatonRow : OpenClaim := { program := "qxb6601625a", sum := "76f99eb9f1a27f55382e0bbece96f035a755b00a7ac52fee247a523005c8633d", func := "example.com/tallyhold/tallyhold/zzlaws_pkg_tally_b1.FnIsJSONNumberMatchesAutomaton", spec := "fnIsJSONNumberMatchesAutomaton", apart := false }
def FnIsJSONNumberMatchesAutomatonSaid : Prop := fnIsJSONNumberMatchesAutomatonRow.holds Try.pinned (OpenSpec.ofChange fnIsJSONNumberMatchesAutomatonSpec)

/-- ITS FALSE NEIGHBOUR: 'it returns false'. Refute it at one input. -/
def fnIsJSONNumberMatchesAutomatonWrong : ChangeSpec := { name := "fnIsJSONNumberMatchesAutomaton", fn := fun _ => fun
  | [d] => { results := [.lit (.bool false)], args := [d] }
  | _ => none }
def FnIsJSONNumberMatchesAutomatonWrongFalsely : Prop := fnIsJSONNumberMatchesAutomatonRow.holds Try.pinned (OpenSpec.ofChange fnIsJSONNumberMatchesAutomatonWrong)

/-- 'zzlaws_pkg_tally_b1.FnIsJSONNumberSignPrefix': WHATEVER THE INPUT: true; the input reads as it did. -/
def fnIsJSONNumberSignPrefixSpec : ChangeSpec := { name := "fnIsJSONNumberSignPrefix", fn := fun _ => fun
  | [d] => { results := [.lit (.bool true)], args := [d] }
  | _ => none }
def fnIsJSONNumberSignPrefixRow : OpenClaim := { program := "qxb6601625a", sum := "76f99eb9f1a27f55382e0bbece96f035a755b00a7ac52fee247a523005c8633d", func := "example.com/tallyhold/tallyhold/zzlaws_pkg_tally_b1.FnIsJSONNumberSignPrefix", spec := "fnIsJSONNumberSignPrefix", apart := false }
def FnIsJSONNumberSignPrefixSaid : Prop := fnIsJSONNumberSignPrefixRow.holds Try.pinned (OpenSpec.ofChange fnIsJSONNumberSignPrefixSpec)

/-- ITS FALSE NEIGHBOUR: 'it returns false'. Refute it at one input. -/
def fnIsJSONNumberSignPrefixWrong : ChangeSpec := { name := "fnIsJSONNumberSignPrefix", fn := fun _ => fun
  | [d] => { results := [.lit (.bool false)], args := [d] }
  | _ => none }
def FnIsJSONNumberSignPrefixWrongFalsely : Prop := fnIsJSONNumberSignPrefixRow.holds Try.pinned (OpenSpec.ofChange fnIsJSONNumberSignPrefixWrong)

/-- 'zzlaws_pkg_tally_b1.FnIsJSONNumberAcceptsPrinted': WHATEVER THE INPUT: true; the input reads as it did. -/
def fnIsJSONNumberAcceptsPrintedSpec : ChangeSpec := { name := "fnIsJSONNumberAcceptsPrinted", fn := fun _ => fun
  | [d1, d2, d3] => { results := [.lit (.bool true)], args := [d1, d2, d3] }
  | _ => none }
def fnIsJSONNumberAcceptsPrintedRow : OpenClaim := { program := "qxb6601625a", sum := "76f99eb9f1a27f55382e0bbece96f035a755b00a7ac52fee247a523005c8633d", func := "example.com/tallyhold/tallyhold/zzlaws_pkg_tally_b1.FnIsJSONNumberAcceptsPrinted", spec := "fnIsJSONNumberAcceptsPrinted", apart := false }
def FnIsJSONNumberAcceptsPrintedSaid : Prop := fnIsJSONNumberAcceptsPrintedRow.holds Try.pinned (OpenSpec.ofChange fnIsJSONNumberAcceptsPrintedSpec)

/-- ITS FALSE NEIGHBOUR: 'it returns false'. Refute it at one input. -/
def fnIsJSONNumberAcceptsPrintedWrong : ChangeSpec := { name := "fnIsJSONNumberAcceptsPrinted", fn := fun _ => fun
  | [d1, d2, d3] => { results := [.lit (.bool false)], args := [d1, d2, d3] }
  | _ => none }
def FnIsJSONNumberAcceptsPrintedWrongFalsely : Prop := fnIsJSONNumberAcceptsPrintedRow.holds Try.pinned (OpenSpec.ofChange fnIsJSONNumberAcceptsPrintedWrong)

/-- 'zzlaws_pkg_tally_b1.FnShapedPositionwise': WHATEVER THE INPUT: true; the input reads as it did. -/
def fnShapedPositionwiseSpec : ChangeSpec := { name := "fnShapedPositionwise", fn := fun _ => fun
  | [d1, d2] => { results := [.lit (.bool true)], args := [d1, d2] }
  | _ => none }
def fnShapedPositionwiseRow : OpenClaim := { program := "qxb6601625a", sum := "76f99eb9f1a27f55382e0bbece96f035a755b00a7ac52fee247a523005c8633d", func := "example.com/tallyhold/tallyhold/zzlaws_pkg_tally_b1.FnShapedPositionwise", spec := "fnShapedPositionwise", apart := false }
def FnShapedPositionwiseSaid : Prop := fnShapedPositionwiseRow.holds Try.pinned (OpenSpec.ofChange fnShapedPositionwiseSpec)

/-- ITS FALSE NEIGHBOUR: 'it returns false'. Refute it at one input. -/
def fnShapedPositionwiseWrong : ChangeSpec := { name := "fnShapedPositionwise", fn := fun _ => fun
  | [d1, d2] => { results := [.lit (.bool false)], args := [d1, d2] }
  | _ => none }
def FnShapedPositionwiseWrongFalsely : Prop := fnShapedPositionwiseRow.holds Try.pinned (OpenSpec.ofChange fnShapedPositionwiseWrong)

/-- 'zzlaws_pkg_tally_b1.FnShapedSelfAndInstance': WHATEVER THE INPUT: true; the input reads as it did. -/
def fnShapedSelfAndInstanceSpec : ChangeSpec := { name := "fnShapedSelfAndInstance", fn := fun _ => fun
  | [d1, d2] => { results := [.lit (.bool true)], args := [d1, d2] }
  | _ => none }
def fnShapedSelfAndInstanceRow : OpenClaim := { program := "qxb6601625a", sum := "76f99eb9f1a27f55382e0bbece96f035a755b00a7ac52fee247a523005c8633d", func := "example.com/tallyhold/tallyhold/zzlaws_pkg_tally_b1.FnShapedSelfAndInstance", spec := "fnShapedSelfAndInstance", apart := false }
def FnShapedSelfAndInstanceSaid : Prop := fnShapedSelfAndInstanceRow.holds Try.pinned (OpenSpec.ofChange fnShapedSelfAndInstanceSpec)

/-- ITS FALSE NEIGHBOUR: 'it returns false'. Refute it at one input. -/
def fnShapedSelfAndInstanceWrong : ChangeSpec := { name := "fnShapedSelfAndInstance", fn := fun _ => fun
  | [d1, d2] => { results := [.lit (.bool false)], args := [d1, d2] }
  | _ => none }
def FnShapedSelfAndInstanceWrongFalsely : Prop := fnShapedSelfAndInstanceRow.holds Try.pinned (OpenSpec.ofChange fnShapedSelfAndInstanceWrong)

/-- 'zzlaws_pkg_tally_b1.FnNanosecondsPlaceValue': WHATEVER THE INPUT: true; the input reads as it did. -/
def fnNanosecondsPlaceValueSpec : ChangeSpec := { name := "fnNanosecondsPlaceValue", fn := fun _ => fun
  | [d] => { results := [.lit (.bool true)], args := [d] }
  | _ => none }
def fnNanosecondsPlaceValueRow : OpenClaim := { program := "qxb6601625a", sum := "76f99eb9f1a27f55382e0bbece96f035a755b00a7ac52fee247a523005c8633d", func := "example.com/tallyhold/tallyhold/zzlaws_pkg_tally_b1.FnNanosecondsPlaceValue", spec := "fnNanosecondsPlaceValue", apart := false }
def FnNanosecondsPlaceValueSaid : Prop := fnNanosecondsPlaceValueRow.holds Try.pinned (OpenSpec.ofChange fnNanosecondsPlaceValueSpec)

/-- ITS FALSE NEIGHBOUR: 'it returns false'. Refute it at one input. -/
def fnNanosecondsPlaceValueWrong : ChangeSpec := { name := "fnNanosecondsPlaceValue", fn := fun _ => fun
  | [d] => { results := [.lit (.bool false)], args := [d] }
  | _ => none }
def FnNanosecondsPlaceValueWrongFalsely : Prop := fnNanosecondsPlaceValueRow.holds Try.pinned (OpenSpec.ofChange fnNanosecondsPlaceValueWrong)

/-- 'zzlaws_pkg_tally_b1.FnNanosecondsRoundTrip': WHATEVER THE INPUT: true; the input reads as it did. -/
def fnNanosecondsRoundTripSpec : ChangeSpec := { name := "fnNanosecondsRoundTrip", fn := fun _ => fun
  | [d1, d2] => { results := [.lit (.bool true)], args := [d1, d2] }
  | _ => none }
def fnNanosecondsRoundTripRow : OpenClaim := { program := "qxb6601625a", sum := "76f99eb9f1a27f55382e0bbece96f035a755b00a7ac52fee247a523005c8633d", func := "example.com/tallyhold/tallyhold/zzlaws_pkg_tally_b1.FnNanosecondsRoundTrip", spec := "fnNanosecondsRoundTrip", apart := false }
def FnNanosecondsRoundTripSaid : Prop := fnNanosecondsRoundTripRow.holds Try.pinned (OpenSpec.ofChange fnNanosecondsRoundTripSpec)

/-- ITS FALSE NEIGHBOUR: 'it returns false'. Refute it at one input. -/
def fnNanosecondsRoundTripWrong : ChangeSpec := { name := "fnNanosecondsRoundTrip", fn := fun _ => fun
  | [d1, d2] => { results := [.lit (.bool false)], args := [d1, d2] }
  | _ => none }
def FnNanosecondsRoundTripWrongFalsely : Prop := fnNanosecondsRoundTripRow.holds Try.pinned (OpenSpec.ofChange fnNanosecondsRoundTripWrong)

end Rows
end Go.Proofs.Qxb6601625a
