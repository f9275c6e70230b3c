/-
  No cell of these rows narrows 'for every input' (looked for: loops, veiled, ifaces, maps, wideKeys, modest, calm, conditions, laid).
  DERIVED. THE GIVEN ROWS OF THIS SEAT. 1 by the template 'for every input the law returns true; each argument reads behind the call as it read before'; 0 by the template 'total and deterministic' (their statements: Qxb6001633aTotals.lean).
  GIVEN WITH THE SEED: the statements are not yours to turn. If you find one false, say at which input.
  Laid BY PROGRAM, IN A SANDBOX (cutbox-rows.mjs): the forced cells as the released guide's own fill.sh prints them over the translation f02108ccd9490e4e… (all of the seat's roots in one cut). By AI agents, Wed Nov 11 2026. No macro, syntax, notation, axiom, sorry.
-/
import Derived.Test.Qxb6001633aChecked
import GoSem.Claim
import GoSem.ClaimJoined
import GoSem.ClaimMapViews
import Derived.JoinedTies
import Derived.KernelRfl
namespace Go.Proofs.Qxb6001633a
/- THE CELL 'sum', in the pinned program and in every row, IS THE sha256 OF THE DUMP (.gsa) THAT Qxb6001633aProg.lean LOADS. Nothing in Lean hashes anything: it is a label: what it is worth is what the hold of that sum in a sandbox is worth. -/
noncomputable def Try.pinned : Pinned := { name := "qxb6001633a", sum := "f02108ccd9490e4ed016b0e2acc3f0335a0d2505352b6e934920fb4d6a6df3f0", checked := Try.checked }
namespace Rows
def none {H : Type} : Left H := { results := [], args := [] }

/-- 'zzlaws_evidence_b1.FnDigitsOfConcatenation': WHATEVER THE INPUT: true; the input reads as it did. -/
def fnDigitsOfConcatenationSpec : ChangeSpec := { name := "fnDigitsOfConcatenation", fn := fun _ => fun
  | [d1, d2] => { results := [.lit (.bool true)], args := [d1, d2] }
  | _ => none }
def fnDigitsOfConcatenationRow : OpenClaim := { program := "qxb6001633a", sum := "f02108ccd9490e4ed016b0e2acc3f0335a0d2505352b6e934920fb4d6a6df3f0", func := "example.com/keyvouch/keyvouch/zzlaws_evidence_b1.FnDigitsOfConcatenation", spec := "fnDigitsOfConcatenation", apart := false }
def FnDigitsOfConcatenationSaid : Prop := fnDigitsOfConcatenationRow.holds Try.pinned (OpenSpec.ofChange fnDigitsOfConcatenationSpec)

/-- ITS FALSE NEIGHBOUR: 'it returns false'. Refute it at one input. -/
def fnDigitsOfConcatenationWrong : ChangeSpec := { name := "fnDigitsOfConcatenation", fn := fun _ => fun
  | [d1, d2] => { results := [.lit (.bool false)], args := [d1, d2] }
  | _ => none }
def FnDigitsOfConcatenationWrongFalsely : Prop := fnDigitsOfConcatenationRow.holds Try.pinned (OpenSpec.ofChange fnDigitsOfConcatenationWrong)

end Rows
end Go.Proofs.Qxb6001633a
