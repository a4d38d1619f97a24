import Derived.Test.Qxb6630159aFmtStops
namespace Go.Proofs.Qxb6630159aFmt
open Go.RowKit

/-- A slice of bytes that came in: its elements 'bs', where it lies. -/
def Row (w : World) (a : Option Addr) (len : Nat) (bs : List Nat) : Prop :=
  bs.length = len ∧ len ≤ maxLen ∧ (∀ x ∈ bs, x < 256) ∧
    (0 < len → ∃ b o, a = some ⟨b, o, none⟩ ∧ ∀ j, j < len → w.cell? ⟨b, o + j, none⟩ = some (.int .u8 ((bs.getD j 0 : Nat) : Int)))
theorem row_nil (w : World) : ∃ zs, Row w none 0 zs := ⟨[], rfl, Nat.zero_le _, fun x hx => (by cases hx), fun h => (by omega)⟩
theorem row_some {w : World} {x : Addr} {len cap : Nat} {zs : List Int} (hl : len ≤ cap) (hm : cap ≤ maxLen) (hz : zs.length = cap) (hc : ∀ i, i < zs.length → w.cell? (x.add i) = some (.int .u8 (zs.getD i 0))) (hw : ∀ n ∈ zs, (Lit.int .u8 n).wf = true) :
    ∃ bs, Row w (some x) len bs := by
  have hb : ∀ n ∈ zs, 0 ≤ n ∧ n ≤ 255 := fun n hn => bounds_u8 (hw n hn)
  refine ⟨(zs.take len).map Int.toNat, ?_, by omega, ?_, ?_⟩
  · simp; omega
  · intro n hn
    obtain ⟨z, hz1, rfl⟩ := List.mem_map.1 hn
    have := hb z (List.mem_of_mem_take hz1)
    omega
  · intro hp
    obtain ⟨b, o, spot⟩ := x
    have h0 := hc 0 (by omega)
    have hspot : spot = none := by simpa [Addr.add] using World.cell?_spot h0
    subst hspot
    refine ⟨b, o, rfl, fun j hj => ?_⟩
    have hj' : j < zs.length := by omega
    have e := hc j hj'
    rw [Go.WideShapes.add_plain] at e
    rw [e]
    have hzj := hb zs[j] (List.getElem_mem hj')
    simp [List.getD, hj', hj]
    omega
end Go.Proofs.Qxb6630159aFmt
