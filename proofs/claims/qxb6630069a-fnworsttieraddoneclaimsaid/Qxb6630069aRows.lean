/-
  No cell of these rows narrows 'for every input' (looked for: loops, veiled, ifaces, maps, wideKeys, modest, calm, conditions, laid).
  DERIVED. THE GIVEN ROWS OF THIS SEAT. 2 by the template 'for every input the law returns true; each argument reads behind the call as it read before'; 0 by the template 'total and deterministic' (their statements: Qxb6630069aTotals.lean).
  GIVEN WITH THE SEED: the statements are not yours to turn. If you find one false, say at which input.
  Laid BY PROGRAM, IN A SANDBOX (cutbox-rows.mjs): the forced cells as the released guide's own fill.sh prints them over the translation 39fbe932e4533d35… (all of the seat's roots in one cut). By AI agents, Wed Nov 11 2026. No macro, syntax, notation, axiom, sorry.
-/
import Derived.Test.Qxb6630069aChecked
import GoSem.Claim
import GoSem.ClaimJoined
import GoSem.ClaimMapViews
import Derived.JoinedTies
import Derived.KernelRfl
namespace Go.Proofs.Qxb6630069a
/- THE CELL 'sum', in the pinned program and in every row, IS THE sha256 OF THE DUMP (.gsa) THAT Qxb6630069aProg.lean LOADS. Nothing in Lean hashes anything: it is a label: what it is worth is what the hold of that sum in a sandbox is worth. -/
noncomputable def Try.pinned : Pinned := { name := "qxb6630069a", sum := "39fbe932e4533d354208e6c49bcbc5022db03d48ef48f102abbe0ef7b5086ef4", checked := Try.checked }
namespace Rows
def none {H : Type} : Left H := { results := [], args := [] }

/-- 'zzlaws_ear_b1.FnWorstTierMatchesModel': WHATEVER THE INPUT: true; the input reads as it did. -/
def fnWorstTierMatchesModelSpec : ChangeSpec := { name := "fnWorstTierMatchesModel", fn := fun _ => fun
  | [d1, d2] => { results := [.lit (.bool true)], args := [d1, d2] }
  | _ => none }
def fnWorstTierMatchesModelRow : OpenClaim := { program := "qxb6630069a", sum := "39fbe932e4533d354208e6c49bcbc5022db03d48ef48f102abbe0ef7b5086ef4", func := "example.com/nereus/nereus/zzlaws_ear_b1.FnWorstTierMatchesModel", spec := "fnWorstTierMatchesModel", apart := false }
def FnWorstTierMatchesModelSaid : Prop := fnWorstTierMatchesModelRow.holds Try.pinned (OpenSpec.ofChange fnWorstTierMatchesModelSpec)

/-- ITS FALSE NEIGHBOUR: 'it returns false'. Refute it at one input. -/
def fnWorstTierMatchesModelWrong : ChangeSpec := { name := "fnWorstTierMatchesModel", fn := fun _ => fun
  | [d1, d2] => { results := [.lit (.bool false)], args := [d1, d2] }
  | _ => none }
def FnWorstTierMatchesModelWrongFalsely : Prop := fnWorstTierMatchesModelRow.holds Try.pinned (OpenSpec.ofChange fnWorstTierMatchesModelWrong)

/-- 'zzlaws_ear_b1.FnWorstTierAddOneClaim': WHATEVER THE INPUT: true; the input reads as it did. -/
def fnWorstTierAddOneClaimSpec : ChangeSpec := { name := "fnWorstTierAddOneClaim", fn := fun _ => fun
  | [d1, d2, d3, d4] => { results := [.lit (.bool true)], args := [d1, d2, d3, d4] }
  | _ => none }
def fnWorstTierAddOneClaimRow : OpenClaim := { program := "qxb6630069a", sum := "39fbe932e4533d354208e6c49bcbc5022db03d48ef48f102abbe0ef7b5086ef4", func := "example.com/nereus/nereus/zzlaws_ear_b1.FnWorstTierAddOneClaim", spec := "fnWorstTierAddOneClaim", apart := false }
def FnWorstTierAddOneClaimSaid : Prop := fnWorstTierAddOneClaimRow.holds Try.pinned (OpenSpec.ofChange fnWorstTierAddOneClaimSpec)

/-- ITS FALSE NEIGHBOUR: 'it returns false'. Refute it at one input. -/
def fnWorstTierAddOneClaimWrong : ChangeSpec := { name := "fnWorstTierAddOneClaim", fn := fun _ => fun
  | [d1, d2, d3, d4] => { results := [.lit (.bool false)], args := [d1, d2, d3, d4] }
  | _ => none }
def FnWorstTierAddOneClaimWrongFalsely : Prop := fnWorstTierAddOneClaimRow.holds Try.pinned (OpenSpec.ofChange fnWorstTierAddOneClaimWrong)

end Rows
end Go.Proofs.Qxb6630069a
