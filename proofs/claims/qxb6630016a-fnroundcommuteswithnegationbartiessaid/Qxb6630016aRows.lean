/-
  No cell of these rows narrows 'for every input' (looked for: loops, veiled, ifaces, maps, wideKeys, modest, calm, conditions, laid).
  DERIVED. THE GIVEN ROWS OF THIS SEAT. 2 by the template 'for every input the law returns true; each argument reads behind the call as it read before'; 0 by the template 'total and deterministic' (their statements: Qxb6630016aTotals.lean).
  GIVEN WITH THE SEED: the statements are not yours to turn. If you find one false, say at which input.
  Laid BY PROGRAM, IN A SANDBOX (cutbox-rows.mjs): the forced cells as the released guide's own fill.sh prints them over the translation d81dcf6535522b07… (all of the seat's roots in one cut). By AI agents, Wed Nov 11 2026. No macro, syntax, notation, axiom, sorry.
-/
import Derived.Test.Qxb6630016aChecked
import GoSem.Claim
import GoSem.ClaimJoined
import GoSem.ClaimMapViews
import Derived.JoinedTies
import Derived.KernelRfl
namespace Go.Proofs.Qxb6630016a
/- THE CELL 'sum', in the pinned program and in every row, IS THE sha256 OF THE DUMP (.gsa) THAT Qxb6630016aProg.lean LOADS. Nothing in Lean hashes anything: it is a label: what it is worth is what the hold of that sum in a sandbox is worth. -/
noncomputable def Try.pinned : Pinned := { name := "qxb6630016a", sum := "d81dcf6535522b074510c91caa148be2773b553357ff2988c0819f6e2223d8d3", checked := Try.checked }
namespace Rows
def none {H : Type} : Left H := { results := [], args := [] }

/-- 'zzlaws_internal_value_b1.FnRoundIsNearestMultipleAndShiftsByWholeUnits': WHATEVER THE INPUT: true; the input reads as it did. -/
def fnRoundIsNearestMultipleAndShiftsByWholeUnitsSpec : ChangeSpec := { name := "fnRoundIsNearestMultipleAndShiftsByWholeUnits", fn := fun _ => fun
  | [d1, d2, d3, d4] => { results := [.lit (.bool true)], args := [d1, d2, d3, d4] }
  | _ => none }
def fnRoundIsNearestMultipleAndShiftsByWholeUnitsRow : OpenClaim := { program := "qxb6630016a", sum := "d81dcf6535522b074510c91caa148be2773b553357ff2988c0819f6e2223d8d3", func := "example.com/redoubt/redoubt/zzlaws_internal_value_b1.FnRoundIsNearestMultipleAndShiftsByWholeUnits", spec := "fnRoundIsNearestMultipleAndShiftsByWholeUnits", apart := false }
def FnRoundIsNearestMultipleAndShiftsByWholeUnitsSaid : Prop := fnRoundIsNearestMultipleAndShiftsByWholeUnitsRow.holds Try.pinned (OpenSpec.ofChange fnRoundIsNearestMultipleAndShiftsByWholeUnitsSpec)

/-- ITS FALSE NEIGHBOUR: 'it returns false'. Refute it at one input. -/
def fnRoundIsNearestMultipleAndShiftsByWholeUnitsWrong : ChangeSpec := { name := "fnRoundIsNearestMultipleAndShiftsByWholeUnits", fn := fun _ => fun
  | [d1, d2, d3, d4] => { results := [.lit (.bool false)], args := [d1, d2, d3, d4] }
  | _ => none }
def FnRoundIsNearestMultipleAndShiftsByWholeUnitsWrongFalsely : Prop := fnRoundIsNearestMultipleAndShiftsByWholeUnitsRow.holds Try.pinned (OpenSpec.ofChange fnRoundIsNearestMultipleAndShiftsByWholeUnitsWrong)

/-- 'zzlaws_internal_value_b1.FnRoundCommutesWithNegationBarTies': WHATEVER THE INPUT: true; the input reads as it did. -/
def fnRoundCommutesWithNegationBarTiesSpec : ChangeSpec := { name := "fnRoundCommutesWithNegationBarTies", fn := fun _ => fun
  | [d1, d2, d3] => { results := [.lit (.bool true)], args := [d1, d2, d3] }
  | _ => none }
def fnRoundCommutesWithNegationBarTiesRow : OpenClaim := { program := "qxb6630016a", sum := "d81dcf6535522b074510c91caa148be2773b553357ff2988c0819f6e2223d8d3", func := "example.com/redoubt/redoubt/zzlaws_internal_value_b1.FnRoundCommutesWithNegationBarTies", spec := "fnRoundCommutesWithNegationBarTies", apart := false }
def FnRoundCommutesWithNegationBarTiesSaid : Prop := fnRoundCommutesWithNegationBarTiesRow.holds Try.pinned (OpenSpec.ofChange fnRoundCommutesWithNegationBarTiesSpec)

/-- ITS FALSE NEIGHBOUR: 'it returns false'. Refute it at one input. -/
def fnRoundCommutesWithNegationBarTiesWrong : ChangeSpec := { name := "fnRoundCommutesWithNegationBarTies", fn := fun _ => fun
  | [d1, d2, d3] => { results := [.lit (.bool false)], args := [d1, d2, d3] }
  | _ => none }
def FnRoundCommutesWithNegationBarTiesWrongFalsely : Prop := fnRoundCommutesWithNegationBarTiesRow.holds Try.pinned (OpenSpec.ofChange fnRoundCommutesWithNegationBarTiesWrong)

end Rows
end Go.Proofs.Qxb6630016a
