/-
  No cell of these rows narrows 'for every input' (looked for: loops, veiled, ifaces, maps, wideKeys, modest, calm, conditions, laid).
  DERIVED. THE GIVEN ROWS OF THIS SEAT. 2 by the template 'for every input the law returns true; each argument reads behind the call as it read before'; 0 by the template 'total and deterministic' (their statements: Qxb6628771aTotals.lean).
  GIVEN WITH THE SEED: the statements are not yours to turn. If you find one false, say at which input.
  Laid BY PROGRAM, IN A SANDBOX (cutbox-rows.mjs): the forced cells as the released guide's own fill.sh prints them over the translation 618e1313283dd4c5… (all of the seat's roots in one cut). By AI agents, Wed Nov 11 2026. No macro, syntax, notation, axiom, sorry.
-/
import Derived.Test.Qxb6628771aChecked
import GoSem.Claim
import GoSem.ClaimJoined
import GoSem.ClaimMapViews
import Derived.JoinedTies
import Derived.KernelRfl
namespace Go.Proofs.Qxb6628771a
/- THE CELL 'sum', in the pinned program and in every row, IS THE sha256 OF THE DUMP (.gsa) THAT Qxb6628771aProg.lean LOADS. Nothing in Lean hashes anything: it is a label: what it is worth is what the hold of that sum in a sandbox is worth. -/
noncomputable def Try.pinned : Pinned := { name := "qxb6628771a", sum := "618e1313283dd4c59d491f38ca9ef10bb513609cf4d603d94e938b61ec4144bc", checked := Try.checked }
namespace Rows
def none {H : Type} : Left H := { results := [], args := [] }

/-- 'zzlaws_internal_uritemplate_b1.FnVariablesIsConcatenationOfParts': WHATEVER THE INPUT: true; the input reads as it did. -/
def fnVariablesIsConcatenationOfPartsSpec : ChangeSpec := { name := "fnVariablesIsConcatenationOfParts", fn := fun _ => fun
  | [d1, d2, d3] => { results := [.lit (.bool true)], args := [d1, d2, d3] }
  | _ => none }
def fnVariablesIsConcatenationOfPartsRow : OpenClaim := { program := "qxb6628771a", sum := "618e1313283dd4c59d491f38ca9ef10bb513609cf4d603d94e938b61ec4144bc", func := "example.com/blindhop/blindhop/zzlaws_internal_uritemplate_b1.FnVariablesIsConcatenationOfParts", spec := "fnVariablesIsConcatenationOfParts", apart := false }
def FnVariablesIsConcatenationOfPartsSaid : Prop := fnVariablesIsConcatenationOfPartsRow.holds Try.pinned (OpenSpec.ofChange fnVariablesIsConcatenationOfPartsSpec)

/-- ITS FALSE NEIGHBOUR: 'it returns false'. Refute it at one input. -/
def fnVariablesIsConcatenationOfPartsWrong : ChangeSpec := { name := "fnVariablesIsConcatenationOfParts", fn := fun _ => fun
  | [d1, d2, d3] => { results := [.lit (.bool false)], args := [d1, d2, d3] }
  | _ => none }
def FnVariablesIsConcatenationOfPartsWrongFalsely : Prop := fnVariablesIsConcatenationOfPartsRow.holds Try.pinned (OpenSpec.ofChange fnVariablesIsConcatenationOfPartsWrong)

/-- 'zzlaws_internal_uritemplate_b1.FnVariablesAnswerIsFreshAndCounted': WHATEVER THE INPUT: true; the input reads as it did. -/
def fnVariablesAnswerIsFreshAndCountedSpec : ChangeSpec := { name := "fnVariablesAnswerIsFreshAndCounted", fn := fun _ => fun
  | [d1, d2, d3] => { results := [.lit (.bool true)], args := [d1, d2, d3] }
  | _ => none }
def fnVariablesAnswerIsFreshAndCountedRow : OpenClaim := { program := "qxb6628771a", sum := "618e1313283dd4c59d491f38ca9ef10bb513609cf4d603d94e938b61ec4144bc", func := "example.com/blindhop/blindhop/zzlaws_internal_uritemplate_b1.FnVariablesAnswerIsFreshAndCounted", spec := "fnVariablesAnswerIsFreshAndCounted", apart := false }
def FnVariablesAnswerIsFreshAndCountedSaid : Prop := fnVariablesAnswerIsFreshAndCountedRow.holds Try.pinned (OpenSpec.ofChange fnVariablesAnswerIsFreshAndCountedSpec)

/-- ITS FALSE NEIGHBOUR: 'it returns false'. Refute it at one input. -/
def fnVariablesAnswerIsFreshAndCountedWrong : ChangeSpec := { name := "fnVariablesAnswerIsFreshAndCounted", fn := fun _ => fun
  | [d1, d2, d3] => { results := [.lit (.bool false)], args := [d1, d2, d3] }
  | _ => none }
def FnVariablesAnswerIsFreshAndCountedWrongFalsely : Prop := fnVariablesAnswerIsFreshAndCountedRow.holds Try.pinned (OpenSpec.ofChange fnVariablesAnswerIsFreshAndCountedWrong)

end Rows
end Go.Proofs.Qxb6628771a
