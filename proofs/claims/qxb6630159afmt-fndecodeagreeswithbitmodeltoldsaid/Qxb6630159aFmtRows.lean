/-
  No cell of these rows narrows 'for every input' (looked for: loops, veiled, ifaces, maps, wideKeys, modest, calm, conditions, laid).
  DERIVED. THE GIVEN ROWS OF THIS SEAT. 2 by the template 'for every input the law returns true; each argument reads behind the call as it read before'; 0 by the template 'total and deterministic' (their statements: Qxb6630159aFmtTotals.lean).
  GIVEN WITH THE SEED: the statements are not yours to turn. If you find one false, say at which input.
  Laid BY PROGRAM, IN A SANDBOX (cutbox-rows.mjs): the forced cells as the released guide's own fill.sh prints them over the translation a66a9e0f44b32182… (all of the seat's roots in one cut). By AI agents, Wed Nov 11 2026. No macro, syntax, notation, axiom, sorry.
-/
import Derived.Test.Qxb6630159aFmtChecked
import GoSem.Claim
import GoSem.ClaimJoined
import GoSem.ClaimMapViews
import Derived.JoinedTies
import Derived.KernelRfl
namespace Go.Proofs.Qxb6630159aFmt
/- THE CELL 'sum', in the pinned program and in every row, IS THE sha256 OF THE DUMP (.gsa) THAT Qxb6630159aFmtProg.lean LOADS. Nothing in Lean hashes anything: it is a label: what it is worth is what the hold of that sum in a sandbox is worth. -/
noncomputable def Tryf.pinned : Pinned := { name := "qxb6630159afmt", sum := "a66a9e0f44b3218265e8fad00be136c82c731b43365414efa92fa863c2ba361e", checked := Tryf.checked }
namespace Rows
def none {H : Type} : Left H := { results := [], args := [] }

/-- 'zzlaws_root_b1.FnDecodeAgreesWithBitModel': WHATEVER THE INPUT: true; the input reads as it did. -/
def fnDecodeAgreesWithBitModelSpec : ChangeSpec := { name := "fnDecodeAgreesWithBitModel", fn := fun _ => fun
  | [d1, d2, d3, d4, d5, d6, d7] => { results := [.lit (.bool true)], args := [d1, d2, d3, d4, d5, d6, d7] }
  | _ => none }
def fnDecodeAgreesWithBitModelRow : OpenClaim := { program := "qxb6630159afmt", sum := "a66a9e0f44b3218265e8fad00be136c82c731b43365414efa92fa863c2ba361e", func := "example.com/antecedent/antecedent/zzlaws_root_b1.FnDecodeAgreesWithBitModel", spec := "fnDecodeAgreesWithBitModel", stops := ["fmt.Sprintf"], inPlace := ["fmt.Sprintf"], apart := false }
/-- NO THEOREM (fmt's text is open here; it may be false): for the released tool's asking of the row's closed facts alone. THE STATEMENT IS 'FnDecodeAgreesWithBitModelToldSaid' (Qxb6630159aFmtCards.lean). -/
def FnDecodeAgreesWithBitModelFormAsk : Prop := fnDecodeAgreesWithBitModelRow.holds Tryf.pinned (OpenSpec.ofChange fnDecodeAgreesWithBitModelSpec)

/-- ITS FALSE NEIGHBOUR: 'it returns false'. Refute it at one input. -/
def fnDecodeAgreesWithBitModelWrong : ChangeSpec := { name := "fnDecodeAgreesWithBitModel", fn := fun _ => fun
  | [d1, d2, d3, d4, d5, d6, d7] => { results := [.lit (.bool false)], args := [d1, d2, d3, d4, d5, d6, d7] }
  | _ => none }
def FnDecodeAgreesWithBitModelWrongFormAsk : Prop := fnDecodeAgreesWithBitModelRow.holds Tryf.pinned (OpenSpec.ofChange fnDecodeAgreesWithBitModelWrong)

/-- 'zzlaws_root_b1.FnDecodeClockLaterByBShiftsReading': WHATEVER THE INPUT: true; the input reads as it did. -/
def fnDecodeClockLaterByBShiftsReadingSpec : ChangeSpec := { name := "fnDecodeClockLaterByBShiftsReading", fn := fun _ => fun
  | [d1, d2, d3, d4, d5, d6, d7] => { results := [.lit (.bool true)], args := [d1, d2, d3, d4, d5, d6, d7] }
  | _ => none }
def fnDecodeClockLaterByBShiftsReadingRow : OpenClaim := { program := "qxb6630159afmt", sum := "a66a9e0f44b3218265e8fad00be136c82c731b43365414efa92fa863c2ba361e", func := "example.com/antecedent/antecedent/zzlaws_root_b1.FnDecodeClockLaterByBShiftsReading", spec := "fnDecodeClockLaterByBShiftsReading", stops := ["fmt.Sprintf"], inPlace := ["fmt.Sprintf"], apart := false }
/-- NO THEOREM (fmt's text is open here; it may be false): for the released tool's asking of the row's closed facts alone. THE STATEMENT IS 'FnDecodeClockLaterByBShiftsReadingToldSaid' (Qxb6630159aFmtCards.lean). -/
def FnDecodeClockLaterByBShiftsReadingFormAsk : Prop := fnDecodeClockLaterByBShiftsReadingRow.holds Tryf.pinned (OpenSpec.ofChange fnDecodeClockLaterByBShiftsReadingSpec)

/-- ITS FALSE NEIGHBOUR: 'it returns false'. Refute it at one input. -/
def fnDecodeClockLaterByBShiftsReadingWrong : ChangeSpec := { name := "fnDecodeClockLaterByBShiftsReading", fn := fun _ => fun
  | [d1, d2, d3, d4, d5, d6, d7] => { results := [.lit (.bool false)], args := [d1, d2, d3, d4, d5, d6, d7] }
  | _ => none }
def FnDecodeClockLaterByBShiftsReadingWrongFormAsk : Prop := fnDecodeClockLaterByBShiftsReadingRow.holds Tryf.pinned (OpenSpec.ofChange fnDecodeClockLaterByBShiftsReadingWrong)

end Rows
end Go.Proofs.Qxb6630159aFmt
