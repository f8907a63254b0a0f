/-
  No cell of these rows narrows 'for every input' (looked for: loops, veiled, ifaces, maps, wideKeys, modest, calm, conditions, laid).
  DERIVED. THE GIVEN ROWS OF THIS SEAT. 2 by the template 'for every input the law returns true; each argument reads behind the call as it read before'; 0 by the template 'total and deterministic' (their statements: Qxb6628806aTotals.lean).
  GIVEN WITH THE SEED: the statements are not yours to turn. If you find one false, say at which input.
  Laid BY PROGRAM, IN A SANDBOX (cutbox-rows.mjs): the forced cells as the released guide's own fill.sh prints them over the translation 2c9c5fde5b053ac9… (all of the seat's roots in one cut). By AI agents, Wed Nov 11 2026. No macro, syntax, notation, axiom, sorry.
-/
import Derived.Test.Qxb6628806aChecked
import GoSem.Claim
import GoSem.ClaimJoined
import GoSem.ClaimMapViews
import Derived.JoinedTies
import Derived.KernelRfl
namespace Go.Proofs.Qxb6628806a
/- THE CELL 'sum', in the pinned program and in every row, IS THE sha256 OF THE DUMP (.gsa) THAT Qxb6628806aProg.lean LOADS. Nothing in Lean hashes anything: it is a label: what it is worth is what the hold of that sum in a sandbox is worth. -/
noncomputable def Try.pinned : Pinned := { name := "qxb6628806a", sum := "2c9c5fde5b053ac990e57de0754ea78382f2678ed4f55f81bd5b9c0ee3456021", checked := Try.checked }
namespace Rows
def none {H : Type} : Left H := { results := [], args := [] }

/-- 'zzlaws_retry_b1.FnThousandthsIsGreatestCountNotAbove': WHATEVER THE INPUT: true; the input reads as it did. -/
def fnThousandthsIsGreatestCountNotAboveSpec : ChangeSpec := { name := "fnThousandthsIsGreatestCountNotAbove", fn := fun _ => fun
  | [d] => { results := [.lit (.bool true)], args := [d] }
  | _ => none }
def fnThousandthsIsGreatestCountNotAboveRow : OpenClaim := { program := "qxb6628806a", sum := "2c9c5fde5b053ac990e57de0754ea78382f2678ed4f55f81bd5b9c0ee3456021", func := "example.com/rough-weather/rough-weather/zzlaws_retry_b1.FnThousandthsIsGreatestCountNotAbove", spec := "fnThousandthsIsGreatestCountNotAbove", apart := false }
def FnThousandthsIsGreatestCountNotAboveSaid : Prop := fnThousandthsIsGreatestCountNotAboveRow.holds Try.pinned (OpenSpec.ofChange fnThousandthsIsGreatestCountNotAboveSpec)

/-- ITS FALSE NEIGHBOUR: 'it returns false'. Refute it at one input. -/
def fnThousandthsIsGreatestCountNotAboveWrong : ChangeSpec := { name := "fnThousandthsIsGreatestCountNotAbove", fn := fun _ => fun
  | [d] => { results := [.lit (.bool false)], args := [d] }
  | _ => none }
def FnThousandthsIsGreatestCountNotAboveWrongFalsely : Prop := fnThousandthsIsGreatestCountNotAboveRow.holds Try.pinned (OpenSpec.ofChange fnThousandthsIsGreatestCountNotAboveWrong)

/-- 'zzlaws_retry_b1.FnThousandthsRoundTripAndThreshold': WHATEVER THE INPUT: true; the input reads as it did. -/
def fnThousandthsRoundTripAndThresholdSpec : ChangeSpec := { name := "fnThousandthsRoundTripAndThreshold", fn := fun _ => fun
  | [d1, d2] => { results := [.lit (.bool true)], args := [d1, d2] }
  | _ => none }
def fnThousandthsRoundTripAndThresholdRow : OpenClaim := { program := "qxb6628806a", sum := "2c9c5fde5b053ac990e57de0754ea78382f2678ed4f55f81bd5b9c0ee3456021", func := "example.com/rough-weather/rough-weather/zzlaws_retry_b1.FnThousandthsRoundTripAndThreshold", spec := "fnThousandthsRoundTripAndThreshold", apart := false }
def FnThousandthsRoundTripAndThresholdSaid : Prop := fnThousandthsRoundTripAndThresholdRow.holds Try.pinned (OpenSpec.ofChange fnThousandthsRoundTripAndThresholdSpec)

/-- ITS FALSE NEIGHBOUR: 'it returns false'. Refute it at one input. -/
def fnThousandthsRoundTripAndThresholdWrong : ChangeSpec := { name := "fnThousandthsRoundTripAndThreshold", fn := fun _ => fun
  | [d1, d2] => { results := [.lit (.bool false)], args := [d1, d2] }
  | _ => none }
def FnThousandthsRoundTripAndThresholdWrongFalsely : Prop := fnThousandthsRoundTripAndThresholdRow.holds Try.pinned (OpenSpec.ofChange fnThousandthsRoundTripAndThresholdWrong)

end Rows
end Go.Proofs.Qxb6628806a
