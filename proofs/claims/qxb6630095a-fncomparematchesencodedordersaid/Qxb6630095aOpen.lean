import Derived.Test.Qxb6630095aWalks
import Derived.ProofKit
import Derived.Deep.SlicePairs
namespace Go.Proofs.Qxb6630095a
open Go.ChangeShapes Go.WideShapes

def strOf : Value → ByteArray
  | .string s => s
  | _ => ByteArray.empty

/-- A slice of labels that came in: the nil one, or a row of pairs of strings. -/
theorem open_labels {H : Type} {enc : TypeId × Value → H} {W : World} {base : Nat} {spare : Nat → Bool} {held : Bool} {a : Option Addr} {len cap : Nat} {x : DataW H} {ps : List MemPlace}
    (h : DataW.Trod enc Try.prog W base spare held 22 (.slice a len cap) x ps) : ∃ ls, Lab W a len ls ∧ len ≤ maxLen := by
  obtain ⟨fuel, hf⟩ := h
  rcases Deep.open_slice_pairs Try.underlying22 Try.underlying35 (by kernel_rfl) rfl rfl (by kernel_rfl) (by kernel_rfl) hf with ⟨hcs, _⟩ | ⟨x, l, c, m, n, V0, V1, D0, D1, P0, P1, hcs, _, hl, hm, hmm, _, hall⟩
  · simp [Value.cells] at hcs
    obtain ⟨rfl, rfl, rfl⟩ := hcs
    exact ⟨[], ⟨rfl, fun p hp => (by cases hp), fun h => (by omega)⟩, Nat.zero_le _⟩
  · simp [Value.cells] at hcs
    obtain ⟨rfl, rfl, rfl⟩ := hcs
    have hlm : len ≤ m := by rw [hmm]; split <;> omega
    have each : ∀ i, i < len → W.cell? (x.add (i * 2)) = some (.string (strOf (V0 i))) ∧ W.cell? (x.add (i * 2 + 1)) = some (.string (strOf (V1 i))) ∧ (strOf (V0 i)).size ≤ maxLen ∧ (strOf (V1 i)).size ≤ maxLen := by
      intro i hi
      obtain ⟨c0, c1, t0, t1⟩ := hall i (by omega)
      obtain ⟨s0, e0, _, z0⟩ := DataW.trod_string Try.underlying9 t0
      obtain ⟨s1, e1, _, z1⟩ := DataW.trod_string Try.underlying9 t1
      simp at e0 e1
      rw [e0] at c0
      rw [e1] at c1
      rw [e0, e1]
      exact ⟨c0, c1, z0, z1⟩
    refine ⟨(List.range len).map fun i => (strOf (V0 i), strOf (V1 i)), ⟨by simp, ?_, ?_⟩, by omega⟩
    · intro p hp
      obtain ⟨i, hi, rfl⟩ := List.mem_map.1 hp
      exact (each i (List.mem_range.1 hi)).2.2
    · intro hpos
      obtain ⟨b, o, spot⟩ := x
      have hspot : spot = none := by simpa [Addr.add] using World.cell?_spot (each 0 hpos).1
      subst hspot
      refine ⟨b, o, rfl, fun j hj => ?_⟩
      have hj' : j < len := by simpa using hj
      have e := each j hj'
      rw [add_plain, add_plain] at e
      simp only [List.getElem_map, List.getElem_range]
      exact ⟨e.1, e.2.1⟩
end Go.Proofs.Qxb6630095a
