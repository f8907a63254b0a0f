/-
  No cell of these rows narrows 'for every input' (looked for: loops, veiled, ifaces, maps, wideKeys, modest, calm, conditions, laid).
  DERIVED. THE GIVEN ROWS OF THIS SEAT. 2 by the template 'for every input the law returns true; each argument reads behind the call as it read before'; 0 by the template 'total and deterministic' (their statements: Qxb6628700aTotals.lean).
  GIVEN WITH THE SEED: the statements are not yours to turn. If you find one false, say at which input.
  Laid BY PROGRAM, IN A SANDBOX (cutbox-rows.mjs): the forced cells as the released guide's own fill.sh prints them over the translation ef3719d49fa69798… (all of the seat's roots in one cut). By AI agents, Wed Nov 11 2026. No macro, syntax, notation, axiom, sorry.
-/
import Derived.Test.Qxb6628700aChecked
import GoSem.Claim
import GoSem.ClaimJoined
import GoSem.ClaimMapViews
import Derived.JoinedTies
import Derived.KernelRfl
namespace Go.Proofs.Qxb6628700a
/- THE CELL 'sum', in the pinned program and in every row, IS THE sha256 OF THE DUMP (.gsa) THAT Qxb6628700aProg.lean LOADS. Nothing in Lean hashes anything: it is a label: what it is worth is what the hold of that sum in a sandbox is worth. -/
noncomputable def Try.pinned : Pinned := { name := "qxb6628700a", sum := "ef3719d49fa69798bde922f7573426e22e205de8d242828ad5ed416ebfe31f79", checked := Try.checked }
namespace Rows
def none {H : Type} : Left H := { results := [], args := [] }

/-- 'zzlaws_pkg_profile_b1.FnMeetsSplitSymmetricIntersection': WHATEVER THE INPUT: true; the input reads as it did. -/
def fnMeetsSplitSymmetricIntersectionSpec : ChangeSpec := { name := "fnMeetsSplitSymmetricIntersection", fn := fun _ => fun
  | [d1, d2, d3] => { results := [.lit (.bool true)], args := [d1, d2, d3] }
  | _ => none }
def fnMeetsSplitSymmetricIntersectionRow : OpenClaim := { program := "qxb6628700a", sum := "ef3719d49fa69798bde922f7573426e22e205de8d242828ad5ed416ebfe31f79", func := "example.com/tuoguan/tuoguan/zzlaws_pkg_profile_b1.FnMeetsSplitSymmetricIntersection", spec := "fnMeetsSplitSymmetricIntersection", apart := false }
def FnMeetsSplitSymmetricIntersectionSaid : Prop := fnMeetsSplitSymmetricIntersectionRow.holds Try.pinned (OpenSpec.ofChange fnMeetsSplitSymmetricIntersectionSpec)

/-- ITS FALSE NEIGHBOUR: 'it returns false'. Refute it at one input. -/
def fnMeetsSplitSymmetricIntersectionWrong : ChangeSpec := { name := "fnMeetsSplitSymmetricIntersection", fn := fun _ => fun
  | [d1, d2, d3] => { results := [.lit (.bool false)], args := [d1, d2, d3] }
  | _ => none }
def FnMeetsSplitSymmetricIntersectionWrongFalsely : Prop := fnMeetsSplitSymmetricIntersectionRow.holds Try.pinned (OpenSpec.ofChange fnMeetsSplitSymmetricIntersectionWrong)

/-- 'zzlaws_pkg_profile_b1.FnMeetsAddOneKind': WHATEVER THE INPUT: true; the input reads as it did. -/
def fnMeetsAddOneKindSpec : ChangeSpec := { name := "fnMeetsAddOneKind", fn := fun _ => fun
  | [d1, d2, d3] => { results := [.lit (.bool true)], args := [d1, d2, d3] }
  | _ => none }
def fnMeetsAddOneKindRow : OpenClaim := { program := "qxb6628700a", sum := "ef3719d49fa69798bde922f7573426e22e205de8d242828ad5ed416ebfe31f79", func := "example.com/tuoguan/tuoguan/zzlaws_pkg_profile_b1.FnMeetsAddOneKind", spec := "fnMeetsAddOneKind", apart := false }
def FnMeetsAddOneKindSaid : Prop := fnMeetsAddOneKindRow.holds Try.pinned (OpenSpec.ofChange fnMeetsAddOneKindSpec)

/-- ITS FALSE NEIGHBOUR: 'it returns false'. Refute it at one input. -/
def fnMeetsAddOneKindWrong : ChangeSpec := { name := "fnMeetsAddOneKind", fn := fun _ => fun
  | [d1, d2, d3] => { results := [.lit (.bool false)], args := [d1, d2, d3] }
  | _ => none }
def FnMeetsAddOneKindWrongFalsely : Prop := fnMeetsAddOneKindRow.holds Try.pinned (OpenSpec.ofChange fnMeetsAddOneKindWrong)

end Rows
end Go.Proofs.Qxb6628700a
