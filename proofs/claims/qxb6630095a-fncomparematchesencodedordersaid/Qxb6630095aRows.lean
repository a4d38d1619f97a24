/-
  No cell of these rows narrows 'for every input' (looked for: loops, veiled, ifaces, maps, wideKeys, modest, calm, conditions, laid).
  DERIVED. THE GIVEN ROWS OF THIS SEAT. 2 by the template 'for every input the law returns true; each argument reads behind the call as it read before'; 0 by the template 'total and deterministic' (their statements: Qxb6630095aTotals.lean).
  GIVEN WITH THE SEED: the statements are not yours to turn. If you find one false, say at which input.
  Laid BY PROGRAM, IN A SANDBOX (cutbox-rows.mjs): the forced cells as the released guide's own fill.sh prints them over the translation ce53b02bf14295b8… (all of the seat's roots in one cut). By AI agents, Wed Nov 11 2026. No macro, syntax, notation, axiom, sorry.
-/
import Derived.Test.Qxb6630095aChecked
import GoSem.Claim
import GoSem.ClaimJoined
import GoSem.ClaimMapViews
import Derived.JoinedTies
import Derived.KernelRfl
namespace Go.Proofs.Qxb6630095a
/- THE CELL 'sum', in the pinned program and in every row, IS THE sha256 OF THE DUMP (.gsa) THAT Qxb6630095aProg.lean LOADS. Nothing in Lean hashes anything: it is a label: what it is worth is what the hold of that sum in a sandbox is worth. -/
noncomputable def Try.pinned : Pinned := { name := "qxb6630095a", sum := "ce53b02bf14295b8410aca4eb148144a7886f0c067965b0c7f3c2b5fcf0e2d81", checked := Try.checked }
namespace Rows
def none {H : Type} : Left H := { results := [], args := [] }

/-- 'zzlaws_storage_b1.FnCompareMatchesEncodedOrder': WHATEVER THE INPUT: true; the input reads as it did. -/
def fnCompareMatchesEncodedOrderSpec : ChangeSpec := { name := "fnCompareMatchesEncodedOrder", fn := fun _ => fun
  | [d1, d2] => { results := [.lit (.bool true)], args := [d1, d2] }
  | _ => none }
def fnCompareMatchesEncodedOrderRow : OpenClaim := { program := "qxb6630095a", sum := "ce53b02bf14295b8410aca4eb148144a7886f0c067965b0c7f3c2b5fcf0e2d81", func := "example.com/weirflow/weirflow/zzlaws_storage_b1.FnCompareMatchesEncodedOrder", spec := "fnCompareMatchesEncodedOrder", inPlace := ["internal/bytealg.abigen_runtime_cmpstring"], apart := false }
def FnCompareMatchesEncodedOrderSaid : Prop := fnCompareMatchesEncodedOrderRow.holds Try.pinned (OpenSpec.ofChange fnCompareMatchesEncodedOrderSpec)

/-- ITS FALSE NEIGHBOUR: 'it returns false'. Refute it at one input. -/
def fnCompareMatchesEncodedOrderWrong : ChangeSpec := { name := "fnCompareMatchesEncodedOrder", fn := fun _ => fun
  | [d1, d2] => { results := [.lit (.bool false)], args := [d1, d2] }
  | _ => none }
def FnCompareMatchesEncodedOrderWrongFalsely : Prop := fnCompareMatchesEncodedOrderRow.holds Try.pinned (OpenSpec.ofChange fnCompareMatchesEncodedOrderWrong)

/-- 'zzlaws_storage_b1.FnCompareCommonPrefixCancels': WHATEVER THE INPUT: true; the input reads as it did. -/
def fnCompareCommonPrefixCancelsSpec : ChangeSpec := { name := "fnCompareCommonPrefixCancels", fn := fun _ => fun
  | [d1, d2, d3] => { results := [.lit (.bool true)], args := [d1, d2, d3] }
  | _ => none }
def fnCompareCommonPrefixCancelsRow : OpenClaim := { program := "qxb6630095a", sum := "ce53b02bf14295b8410aca4eb148144a7886f0c067965b0c7f3c2b5fcf0e2d81", func := "example.com/weirflow/weirflow/zzlaws_storage_b1.FnCompareCommonPrefixCancels", spec := "fnCompareCommonPrefixCancels", inPlace := ["internal/bytealg.abigen_runtime_cmpstring"], apart := false }
def FnCompareCommonPrefixCancelsSaid : Prop := fnCompareCommonPrefixCancelsRow.holds Try.pinned (OpenSpec.ofChange fnCompareCommonPrefixCancelsSpec)

/-- ITS FALSE NEIGHBOUR: 'it returns false'. Refute it at one input. -/
def fnCompareCommonPrefixCancelsWrong : ChangeSpec := { name := "fnCompareCommonPrefixCancels", fn := fun _ => fun
  | [d1, d2, d3] => { results := [.lit (.bool false)], args := [d1, d2, d3] }
  | _ => none }
def FnCompareCommonPrefixCancelsWrongFalsely : Prop := fnCompareCommonPrefixCancelsRow.holds Try.pinned (OpenSpec.ofChange fnCompareCommonPrefixCancelsWrong)

end Rows
end Go.Proofs.Qxb6630095a
