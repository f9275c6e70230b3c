/-
  No cell of these rows narrows 'for every input' (looked for: loops, veiled, ifaces, maps, wideKeys, modest, calm, conditions, laid).
  DERIVED. THE GIVEN ROWS OF THIS SEAT. 9 by the template 'for every input the law returns true; each argument reads behind the call as it read before'; 0 by the template 'total and deterministic' (their statements: Qxb6001343aTotals.lean).
  GIVEN WITH THE SEED: the statements are not yours to turn. If you find one false, say at which input.
  Laid BY PROGRAM, IN A SANDBOX (cutbox-rows.mjs): the forced cells as the released guide's own fill.sh prints them over the translation bcce1dd76d49ca6c… (all of the seat's roots in one cut). By AI agents, Wed Nov 11 2026. No macro, syntax, notation, axiom, sorry.
-/
import Derived.Test.Qxb6001343aChecked
import GoSem.Claim
import GoSem.ClaimJoined
import GoSem.ClaimMapViews
import Derived.JoinedTies
import Derived.KernelRfl
namespace Go.Proofs.Qxb6001343a
/- THE CELL 'sum', in the pinned program and in every row, IS THE sha256 OF THE DUMP (.gsa) THAT Qxb6001343aProg.lean LOADS. Nothing in Lean hashes anything: it is a label: what it is worth is what the hold of that sum in a sandbox is worth. -/
noncomputable def Try.pinned : Pinned := { name := "qxb6001343a", sum := "bcce1dd76d49ca6ceed5fd8fb6d79a999ca618793e93060a3179a54036431979", checked := Try.checked }
namespace Rows
def none {H : Type} : Left H := { results := [], args := [] }

/-- 'zzlaws_internal_yaml_b1.FnClosingBracketLandsOnACloser': WHATEVER THE INPUT: true; the input reads as it did. -/
def fnClosingBracketLandsOnACloserSpec : ChangeSpec := { name := "fnClosingBracketLandsOnACloser", fn := fun _ => fun
  | [d1, d2] => { results := [.lit (.bool true)], args := [d1, d2] }
  | _ => none }
def fnClosingBracketLandsOnACloserRow : OpenClaim := { program := "qxb6001343a", sum := "bcce1dd76d49ca6ceed5fd8fb6d79a999ca618793e93060a3179a54036431979", func := "example.com/vestwright/vestwright/zzlaws_internal_yaml_b1.FnClosingBracketLandsOnACloser", spec := "fnClosingBracketLandsOnACloser", apart := false }
def FnClosingBracketLandsOnACloserSaid : Prop := fnClosingBracketLandsOnACloserRow.holds Try.pinned (OpenSpec.ofChange fnClosingBracketLandsOnACloserSpec)

/-- ITS FALSE NEIGHBOUR: 'it returns false'. Refute it at one input. -/
def fnClosingBracketLandsOnACloserWrong : ChangeSpec := { name := "fnClosingBracketLandsOnACloser", fn := fun _ => fun
  | [d1, d2] => { results := [.lit (.bool false)], args := [d1, d2] }
  | _ => none }
def FnClosingBracketLandsOnACloserWrongFalsely : Prop := fnClosingBracketLandsOnACloserRow.holds Try.pinned (OpenSpec.ofChange fnClosingBracketLandsOnACloserWrong)

/-- 'zzlaws_internal_yaml_b1.FnClosingBracketSeesOnlyUpToItsAnswer': WHATEVER THE INPUT: true; the input reads as it did. -/
def fnClosingBracketSeesOnlyUpToItsAnswerSpec : ChangeSpec := { name := "fnClosingBracketSeesOnlyUpToItsAnswer", fn := fun _ => fun
  | [d1, d2, d3] => { results := [.lit (.bool true)], args := [d1, d2, d3] }
  | _ => none }
def fnClosingBracketSeesOnlyUpToItsAnswerRow : OpenClaim := { program := "qxb6001343a", sum := "bcce1dd76d49ca6ceed5fd8fb6d79a999ca618793e93060a3179a54036431979", func := "example.com/vestwright/vestwright/zzlaws_internal_yaml_b1.FnClosingBracketSeesOnlyUpToItsAnswer", spec := "fnClosingBracketSeesOnlyUpToItsAnswer", apart := false }
def FnClosingBracketSeesOnlyUpToItsAnswerSaid : Prop := fnClosingBracketSeesOnlyUpToItsAnswerRow.holds Try.pinned (OpenSpec.ofChange fnClosingBracketSeesOnlyUpToItsAnswerSpec)

/-- ITS FALSE NEIGHBOUR: 'it returns false'. Refute it at one input. -/
def fnClosingBracketSeesOnlyUpToItsAnswerWrong : ChangeSpec := { name := "fnClosingBracketSeesOnlyUpToItsAnswer", fn := fun _ => fun
  | [d1, d2, d3] => { results := [.lit (.bool false)], args := [d1, d2, d3] }
  | _ => none }
def FnClosingBracketSeesOnlyUpToItsAnswerWrongFalsely : Prop := fnClosingBracketSeesOnlyUpToItsAnswerRow.holds Try.pinned (OpenSpec.ofChange fnClosingBracketSeesOnlyUpToItsAnswerWrong)

/-- 'zzlaws_internal_yaml_b1.FnClosingBracketShiftInvariant': WHATEVER THE INPUT: true; the input reads as it did. -/
def fnClosingBracketShiftInvariantSpec : ChangeSpec := { name := "fnClosingBracketShiftInvariant", fn := fun _ => fun
  | [d1, d2, d3] => { results := [.lit (.bool true)], args := [d1, d2, d3] }
  | _ => none }
def fnClosingBracketShiftInvariantRow : OpenClaim := { program := "qxb6001343a", sum := "bcce1dd76d49ca6ceed5fd8fb6d79a999ca618793e93060a3179a54036431979", func := "example.com/vestwright/vestwright/zzlaws_internal_yaml_b1.FnClosingBracketShiftInvariant", spec := "fnClosingBracketShiftInvariant", apart := false }
def FnClosingBracketShiftInvariantSaid : Prop := fnClosingBracketShiftInvariantRow.holds Try.pinned (OpenSpec.ofChange fnClosingBracketShiftInvariantSpec)

/-- ITS FALSE NEIGHBOUR: 'it returns false'. Refute it at one input. -/
def fnClosingBracketShiftInvariantWrong : ChangeSpec := { name := "fnClosingBracketShiftInvariant", fn := fun _ => fun
  | [d1, d2, d3] => { results := [.lit (.bool false)], args := [d1, d2, d3] }
  | _ => none }
def FnClosingBracketShiftInvariantWrongFalsely : Prop := fnClosingBracketShiftInvariantRow.holds Try.pinned (OpenSpec.ofChange fnClosingBracketShiftInvariantWrong)

/-- 'zzlaws_internal_yaml_b1.FnImplicitKeyPlainKeyFields': WHATEVER THE INPUT: true; the input reads as it did. -/
def fnImplicitKeyPlainKeyFieldsSpec : ChangeSpec := { name := "fnImplicitKeyPlainKeyFields", fn := fun _ => fun
  | [d1, d2] => { results := [.lit (.bool true)], args := [d1, d2] }
  | _ => none }
def fnImplicitKeyPlainKeyFieldsRow : OpenClaim := { program := "qxb6001343a", sum := "bcce1dd76d49ca6ceed5fd8fb6d79a999ca618793e93060a3179a54036431979", func := "example.com/vestwright/vestwright/zzlaws_internal_yaml_b1.FnImplicitKeyPlainKeyFields", spec := "fnImplicitKeyPlainKeyFields", inPlace := ["internal/bytealg.IndexByteString"], apart := false }
def FnImplicitKeyPlainKeyFieldsSaid : Prop := fnImplicitKeyPlainKeyFieldsRow.holds Try.pinned (OpenSpec.ofChange fnImplicitKeyPlainKeyFieldsSpec)

/-- ITS FALSE NEIGHBOUR: 'it returns false'. Refute it at one input. -/
def fnImplicitKeyPlainKeyFieldsWrong : ChangeSpec := { name := "fnImplicitKeyPlainKeyFields", fn := fun _ => fun
  | [d1, d2] => { results := [.lit (.bool false)], args := [d1, d2] }
  | _ => none }
def FnImplicitKeyPlainKeyFieldsWrongFalsely : Prop := fnImplicitKeyPlainKeyFieldsRow.holds Try.pinned (OpenSpec.ofChange fnImplicitKeyPlainKeyFieldsWrong)

/-- 'zzlaws_internal_yaml_b1.FnImplicitKeyNeedsAColon': WHATEVER THE INPUT: true; the input reads as it did. -/
def fnImplicitKeyNeedsAColonSpec : ChangeSpec := { name := "fnImplicitKeyNeedsAColon", fn := fun _ => fun
  | [d1, d2] => { results := [.lit (.bool true)], args := [d1, d2] }
  | _ => none }
def fnImplicitKeyNeedsAColonRow : OpenClaim := { program := "qxb6001343a", sum := "bcce1dd76d49ca6ceed5fd8fb6d79a999ca618793e93060a3179a54036431979", func := "example.com/vestwright/vestwright/zzlaws_internal_yaml_b1.FnImplicitKeyNeedsAColon", spec := "fnImplicitKeyNeedsAColon", inPlace := ["internal/bytealg.IndexByteString"], apart := false }
def FnImplicitKeyNeedsAColonSaid : Prop := fnImplicitKeyNeedsAColonRow.holds Try.pinned (OpenSpec.ofChange fnImplicitKeyNeedsAColonSpec)

/-- ITS FALSE NEIGHBOUR: 'it returns false'. Refute it at one input. -/
def fnImplicitKeyNeedsAColonWrong : ChangeSpec := { name := "fnImplicitKeyNeedsAColon", fn := fun _ => fun
  | [d1, d2] => { results := [.lit (.bool false)], args := [d1, d2] }
  | _ => none }
def FnImplicitKeyNeedsAColonWrongFalsely : Prop := fnImplicitKeyNeedsAColonRow.holds Try.pinned (OpenSpec.ofChange fnImplicitKeyNeedsAColonWrong)

/-- 'zzlaws_internal_yaml_b1.FnImplicitKeyReadsOnlyItsLine': WHATEVER THE INPUT: true; the input reads as it did. -/
def fnImplicitKeyReadsOnlyItsLineSpec : ChangeSpec := { name := "fnImplicitKeyReadsOnlyItsLine", fn := fun _ => fun
  | [d1, d2, d3, d4] => { results := [.lit (.bool true)], args := [d1, d2, d3, d4] }
  | _ => none }
def fnImplicitKeyReadsOnlyItsLineRow : OpenClaim := { program := "qxb6001343a", sum := "bcce1dd76d49ca6ceed5fd8fb6d79a999ca618793e93060a3179a54036431979", func := "example.com/vestwright/vestwright/zzlaws_internal_yaml_b1.FnImplicitKeyReadsOnlyItsLine", spec := "fnImplicitKeyReadsOnlyItsLine", inPlace := ["internal/bytealg.IndexByteString"], apart := false }
def FnImplicitKeyReadsOnlyItsLineSaid : Prop := fnImplicitKeyReadsOnlyItsLineRow.holds Try.pinned (OpenSpec.ofChange fnImplicitKeyReadsOnlyItsLineSpec)

/-- ITS FALSE NEIGHBOUR: 'it returns false'. Refute it at one input. -/
def fnImplicitKeyReadsOnlyItsLineWrong : ChangeSpec := { name := "fnImplicitKeyReadsOnlyItsLine", fn := fun _ => fun
  | [d1, d2, d3, d4] => { results := [.lit (.bool false)], args := [d1, d2, d3, d4] }
  | _ => none }
def FnImplicitKeyReadsOnlyItsLineWrongFalsely : Prop := fnImplicitKeyReadsOnlyItsLineRow.holds Try.pinned (OpenSpec.ofChange fnImplicitKeyReadsOnlyItsLineWrong)

/-- 'zzlaws_internal_yaml_b1.FnPlainEndStaysOnTheLine': WHATEVER THE INPUT: true; the input reads as it did. -/
def fnPlainEndStaysOnTheLineSpec : ChangeSpec := { name := "fnPlainEndStaysOnTheLine", fn := fun _ => fun
  | [d1, d2, d3] => { results := [.lit (.bool true)], args := [d1, d2, d3] }
  | _ => none }
def fnPlainEndStaysOnTheLineRow : OpenClaim := { program := "qxb6001343a", sum := "bcce1dd76d49ca6ceed5fd8fb6d79a999ca618793e93060a3179a54036431979", func := "example.com/vestwright/vestwright/zzlaws_internal_yaml_b1.FnPlainEndStaysOnTheLine", spec := "fnPlainEndStaysOnTheLine", inPlace := ["internal/bytealg.IndexByteString"], apart := false }
def FnPlainEndStaysOnTheLineSaid : Prop := fnPlainEndStaysOnTheLineRow.holds Try.pinned (OpenSpec.ofChange fnPlainEndStaysOnTheLineSpec)

/-- ITS FALSE NEIGHBOUR: 'it returns false'. Refute it at one input. -/
def fnPlainEndStaysOnTheLineWrong : ChangeSpec := { name := "fnPlainEndStaysOnTheLine", fn := fun _ => fun
  | [d1, d2, d3] => { results := [.lit (.bool false)], args := [d1, d2, d3] }
  | _ => none }
def FnPlainEndStaysOnTheLineWrongFalsely : Prop := fnPlainEndStaysOnTheLineRow.holds Try.pinned (OpenSpec.ofChange fnPlainEndStaysOnTheLineWrong)

/-- 'zzlaws_internal_yaml_b1.FnPlainEndFlowNoLonger': WHATEVER THE INPUT: true; the input reads as it did. -/
def fnPlainEndFlowNoLongerSpec : ChangeSpec := { name := "fnPlainEndFlowNoLonger", fn := fun _ => fun
  | [d1, d2] => { results := [.lit (.bool true)], args := [d1, d2] }
  | _ => none }
def fnPlainEndFlowNoLongerRow : OpenClaim := { program := "qxb6001343a", sum := "bcce1dd76d49ca6ceed5fd8fb6d79a999ca618793e93060a3179a54036431979", func := "example.com/vestwright/vestwright/zzlaws_internal_yaml_b1.FnPlainEndFlowNoLonger", spec := "fnPlainEndFlowNoLonger", inPlace := ["internal/bytealg.IndexByteString"], apart := false }
def FnPlainEndFlowNoLongerSaid : Prop := fnPlainEndFlowNoLongerRow.holds Try.pinned (OpenSpec.ofChange fnPlainEndFlowNoLongerSpec)

/-- ITS FALSE NEIGHBOUR: 'it returns false'. Refute it at one input. -/
def fnPlainEndFlowNoLongerWrong : ChangeSpec := { name := "fnPlainEndFlowNoLonger", fn := fun _ => fun
  | [d1, d2] => { results := [.lit (.bool false)], args := [d1, d2] }
  | _ => none }
def FnPlainEndFlowNoLongerWrongFalsely : Prop := fnPlainEndFlowNoLongerRow.holds Try.pinned (OpenSpec.ofChange fnPlainEndFlowNoLongerWrong)

/-- 'zzlaws_internal_yaml_b1.FnPlainEndKeyCacheAgrees': WHATEVER THE INPUT: true; the input reads as it did. -/
def fnPlainEndKeyCacheAgreesSpec : ChangeSpec := { name := "fnPlainEndKeyCacheAgrees", fn := fun _ => fun
  | [d1, d2] => { results := [.lit (.bool true)], args := [d1, d2] }
  | _ => none }
def fnPlainEndKeyCacheAgreesRow : OpenClaim := { program := "qxb6001343a", sum := "bcce1dd76d49ca6ceed5fd8fb6d79a999ca618793e93060a3179a54036431979", func := "example.com/vestwright/vestwright/zzlaws_internal_yaml_b1.FnPlainEndKeyCacheAgrees", spec := "fnPlainEndKeyCacheAgrees", inPlace := ["internal/bytealg.IndexByteString"], apart := false }
def FnPlainEndKeyCacheAgreesSaid : Prop := fnPlainEndKeyCacheAgreesRow.holds Try.pinned (OpenSpec.ofChange fnPlainEndKeyCacheAgreesSpec)

/-- ITS FALSE NEIGHBOUR: 'it returns false'. Refute it at one input. -/
def fnPlainEndKeyCacheAgreesWrong : ChangeSpec := { name := "fnPlainEndKeyCacheAgrees", fn := fun _ => fun
  | [d1, d2] => { results := [.lit (.bool false)], args := [d1, d2] }
  | _ => none }
def FnPlainEndKeyCacheAgreesWrongFalsely : Prop := fnPlainEndKeyCacheAgreesRow.holds Try.pinned (OpenSpec.ofChange fnPlainEndKeyCacheAgreesWrong)

end Rows
end Go.Proofs.Qxb6001343a
