/-
  No cell of these rows narrows 'for every input' (looked for: loops, veiled, ifaces, maps, wideKeys, modest, calm, conditions, laid).
  DERIVED. THE GIVEN ROWS OF THIS SEAT. 2 by the template 'for every input the law returns true; each argument reads behind the call as it read before'; 0 by the template 'total and deterministic' (their statements: Qxb6628743aTotals.lean).
  GIVEN WITH THE SEED: the statements are not yours to turn. If you find one false, say at which input.
  Laid BY PROGRAM, IN A SANDBOX (cutbox-rows.mjs): the forced cells as the released guide's own fill.sh prints them over the translation 45b6d99e03e59b85… (all of the seat's roots in one cut). By AI agents, Wed Nov 11 2026. No macro, syntax, notation, axiom, sorry.
-/
import Derived.Test.Qxb6628743aChecked
import GoSem.Claim
import GoSem.ClaimJoined
import GoSem.ClaimMapViews
import Derived.JoinedTies
import Derived.KernelRfl
namespace Go.Proofs.Qxb6628743a
/- THE CELL 'sum', in the pinned program and in every row, IS THE sha256 OF THE DUMP (.gsa) THAT Qxb6628743aProg.lean LOADS. Nothing in Lean hashes anything: it is a label: what it is worth is what the hold of that sum in a sandbox is worth. -/
noncomputable def Try.pinned : Pinned := { name := "qxb6628743a", sum := "45b6d99e03e59b850dbf443133ab2ff1a67b1c6f9c3cc71996b69261d893625c", checked := Try.checked }
namespace Rows
def none {H : Type} : Left H := { results := [], args := [] }

/-- 'zzlaws_root_b1.FnWholeAboveTopmostWholeAncestor': WHATEVER THE INPUT: true; the input reads as it did. -/
def fnWholeAboveTopmostWholeAncestorSpec : ChangeSpec := { name := "fnWholeAboveTopmostWholeAncestor", fn := fun _ => fun
  | [d1, d2] => { results := [.lit (.bool true)], args := [d1, d2] }
  | _ => none }
def fnWholeAboveTopmostWholeAncestorRow : OpenClaim := { program := "qxb6628743a", sum := "45b6d99e03e59b850dbf443133ab2ff1a67b1c6f9c3cc71996b69261d893625c", func := "example.com/granulock/granulock/zzlaws_root_b1.FnWholeAboveTopmostWholeAncestor", spec := "fnWholeAboveTopmostWholeAncestor", apart := false }
def FnWholeAboveTopmostWholeAncestorSaid : Prop := fnWholeAboveTopmostWholeAncestorRow.holds Try.pinned (OpenSpec.ofChange fnWholeAboveTopmostWholeAncestorSpec)

/-- ITS FALSE NEIGHBOUR: 'it returns false'. Refute it at one input. -/
def fnWholeAboveTopmostWholeAncestorWrong : ChangeSpec := { name := "fnWholeAboveTopmostWholeAncestor", fn := fun _ => fun
  | [d1, d2] => { results := [.lit (.bool false)], args := [d1, d2] }
  | _ => none }
def FnWholeAboveTopmostWholeAncestorWrongFalsely : Prop := fnWholeAboveTopmostWholeAncestorRow.holds Try.pinned (OpenSpec.ofChange fnWholeAboveTopmostWholeAncestorWrong)

/-- 'zzlaws_root_b1.FnWholeAboveCutAgreement': WHATEVER THE INPUT: true; the input reads as it did. -/
def fnWholeAboveCutAgreementSpec : ChangeSpec := { name := "fnWholeAboveCutAgreement", fn := fun _ => fun
  | [d1, d2, d3] => { results := [.lit (.bool true)], args := [d1, d2, d3] }
  | _ => none }
def fnWholeAboveCutAgreementRow : OpenClaim := { program := "qxb6628743a", sum := "45b6d99e03e59b850dbf443133ab2ff1a67b1c6f9c3cc71996b69261d893625c", func := "example.com/granulock/granulock/zzlaws_root_b1.FnWholeAboveCutAgreement", spec := "fnWholeAboveCutAgreement", apart := false }
def FnWholeAboveCutAgreementSaid : Prop := fnWholeAboveCutAgreementRow.holds Try.pinned (OpenSpec.ofChange fnWholeAboveCutAgreementSpec)

/-- ITS FALSE NEIGHBOUR: 'it returns false'. Refute it at one input. -/
def fnWholeAboveCutAgreementWrong : ChangeSpec := { name := "fnWholeAboveCutAgreement", fn := fun _ => fun
  | [d1, d2, d3] => { results := [.lit (.bool false)], args := [d1, d2, d3] }
  | _ => none }
def FnWholeAboveCutAgreementWrongFalsely : Prop := fnWholeAboveCutAgreementRow.holds Try.pinned (OpenSpec.ofChange fnWholeAboveCutAgreementWrong)

end Rows
end Go.Proofs.Qxb6628743a
