import Derived.Test.Qxb6630159aFmtSmall
namespace Go.Proofs.Qxb6630159aFmt
open Go.RowKit

set_option maxHeartbeats 400000 in
theorem len_any (be n W P : Nat) (w : World) (h2 : w.cell? ⟨be, 2, none⟩ = some (.int .i64 (n : Int))) (h3 : w.cell? ⟨be, 3, none⟩ = some (.int .i64 (W : Int))) (hP : (n : Int) * W = P) (hPl : P ≤ 4000000) :
    Calls Tryf.prog 17 #[.pointer (some ⟨be, 0, none⟩)] w fun e w' => e = .returned (.int .i64 (((P + 7) / 8 : Nat) : Int)) ∧ ∃ q, w' = w.drewN q := by
  go_enter Tryf.func17, Tryf.ntmps17
  go_wp2_with fail
  go_quiet (fail)
  go_wp2
  go_ret
  exact ⟨ret_int (by omega), nq, rfl⟩

/-- no bit of the last byte behind bit e is set -/
def PadOK (bs : List Nat) (len e : Nat) : Prop := e % 8 = 0 ∨ bs.getD (len - 1) 0 * 2 ^ (e % 8) % 256 = 0

set_option maxHeartbeats 400000 in
theorem pad_any (s : ByteArray) (a : Option Addr) (len cap : Nat) (bs : List Nat) (e : Nat) (w : World) (hr : Row w a len bs) (he : e ≤ len * 8) (hl : len ≤ 2000000) :
    Calls Tryf.prog 20 #[.string s, .slice a len cap, .int .i64 e] w fun x w' => ((PadOK bs len e ∧ x = .returned (.pointer none)) ∨ (¬ PadOK bs len e ∧ ∃ b, x = .returned (.pointer (some b)))) ∧ Below w.heap.size w w' := by
  have h1 := call16
  have h2 := guardF
  have h3 := fmtPad
  have h4 := op3
  by_cases h0 : e % 8 = 0
  · have h0' : (e : Int) % 8 = 0 := by omega
    have HP : Hid (PadOK bs len e) := .inl h0
    go_enter Tryf.func20, Tryf.ntmps20
    go_wp2
    go_ret
    exact ⟨.inl ⟨HP.out, rfl⟩, Below.refl _ _⟩
  · have hb := hr.byte (len - 1)
    obtain ⟨_, _, _, hc0⟩ := hr
    obtain ⟨b, o, rfl, hc⟩ := hc0 (by omega)
    clear hc0
    obtain ⟨y, hy⟩ : ∃ y, y = bs.getD (len - 1) 0 := ⟨_, rfl⟩
    have g1 := hc (len - 1) (by omega)
    rw [← hy] at g1 hb
    obtain ⟨u, hu⟩ : ∃ u, e % 8 = u := ⟨_, rfl⟩
    have hu' : (e : Int) % 8 = u := by omega
    have hu7 : u ≤ 7 := by omega
    have hu0 : 0 < u := by omega
    have hl1 : 1 ≤ len := by omega
    have hlm : (len : Int) - 1 < len := by omega
    have es : ((2 : Int) ^ u) = ((2 ^ u : Nat) : Int) := by simp
    have hw : IntKind.u8.wrap ((y : Int) * 2 ^ u) = ((y * 2 ^ u % 256 : Nat) : Int) := by
      rw [es, ← Int.natCast_mul, IntKind.wrap_u8]; omega
    by_cases hz : y * 2 ^ u % 256 = 0
    · have HP : Hid (PadOK bs len e) := .inr (by rw [← hy, hu]; exact hz)
      rw [hz] at hw
      clear hc hy es hz hu h0
      go_enter Tryf.func20, Tryf.ntmps20
      go_wp2
      go_ret
      exact ⟨.inl ⟨HP.out, rfl⟩, Below.refl _ _⟩
    · have HP : Hid (¬ PadOK bs len e) := fun h => h.elim h0 (fun h => hz (by rw [← hy, hu] at h; exact h))
      obtain ⟨z, hzz⟩ : ∃ z, y * 2 ^ u % 256 = z := ⟨_, rfl⟩
      rw [hzz] at hw hz
      have hz' : (z : Int) ≠ 0 := by omega
      clear hc hy es hu h0 hzz
      go_enter Tryf.func20, Tryf.ntmps20
      go_wp2
      go_ret
      exact ⟨.inr ⟨HP.out, _, rfl⟩, by go_grown⟩
end Go.Proofs.Qxb6630159aFmt
