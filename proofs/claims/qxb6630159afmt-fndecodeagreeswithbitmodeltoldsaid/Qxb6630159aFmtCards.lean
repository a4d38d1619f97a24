/-
  DERIVED. GIVEN WITH THE SEED: THE CARDS: each row of Qxb6630159aFmtRows.lean that lists a variable, with what it lists TIED to the program's text (the seventh form; the later family's looks); each row that meets fmt, with fmt's text TOLD by the authors' own Lean function (tested against real Go, not proved from fmt's source: count such statements apart). THE CARD IS WHAT COUNTS. Prove the row's statement (the work); the ties are given (Qxb6630159aFmtTie.lean); close each card by the builder's one call (the guide's Derived/Test/ToyasCard.lean, 'card_holds'). Laid BY PROGRAM, IN A SANDBOX (cutbox-door.mjs). By AI agents, Wed Nov 11 2026. No macro, syntax, notation, axiom, sorry.
-/
import Derived.Test.Qxb6630159aFmtRows
import GoSem.ClaimSeven
namespace Go.Proofs.Qxb6630159aFmt
namespace Rows

/-- THE TOLD CARD OF 'zzlaws_root_b1.FnDecodeAgreesWithBitModel'. -/
def fnDecodeAgreesWithBitModelCard : Claim7 := { stood := { row := fnDecodeAgreesWithBitModelRow, standIns := [], harness := (true, "ef8ab2d7567b3597ec00e90c8a2be6219d45e56a1021a7ce36c1ab3950504793"), looks := false }, told := true, goes := false }
def FnDecodeAgreesWithBitModelToldSaid : Prop := Claim7.holds Tryf.pinned (.plain (OpenSpec.ofChange fnDecodeAgreesWithBitModelSpec)) fnDecodeAgreesWithBitModelCard
/-- ITS FALSE NEIGHBOUR. Refute it at one input. -/
def FnDecodeAgreesWithBitModelToldWrongFalsely : Prop := Claim7.holds Tryf.pinned (.plain (OpenSpec.ofChange fnDecodeAgreesWithBitModelWrong)) fnDecodeAgreesWithBitModelCard

/-- THE TOLD CARD OF 'zzlaws_root_b1.FnDecodeClockLaterByBShiftsReading'. -/
def fnDecodeClockLaterByBShiftsReadingCard : Claim7 := { stood := { row := fnDecodeClockLaterByBShiftsReadingRow, standIns := [], harness := (true, "ef8ab2d7567b3597ec00e90c8a2be6219d45e56a1021a7ce36c1ab3950504793"), looks := false }, told := true, goes := false }
def FnDecodeClockLaterByBShiftsReadingToldSaid : Prop := Claim7.holds Tryf.pinned (.plain (OpenSpec.ofChange fnDecodeClockLaterByBShiftsReadingSpec)) fnDecodeClockLaterByBShiftsReadingCard
/-- ITS FALSE NEIGHBOUR. Refute it at one input. -/
def FnDecodeClockLaterByBShiftsReadingToldWrongFalsely : Prop := Claim7.holds Tryf.pinned (.plain (OpenSpec.ofChange fnDecodeClockLaterByBShiftsReadingWrong)) fnDecodeClockLaterByBShiftsReadingCard
end Rows
end Go.Proofs.Qxb6630159aFmt
