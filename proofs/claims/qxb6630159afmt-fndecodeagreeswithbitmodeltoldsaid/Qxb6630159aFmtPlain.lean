import Derived.Below
namespace Go.Proofs.Qxb6630159aFmt

/-- bit i of the bytes, bit 0 the most significant of the first -/
def bit (bs : List Nat) (i : Nat) : Nat := bs.getD (i / 8) 0 / 2 ^ (7 - i % 8) % 2
/-- the field of w bits at bit off -/
def fld (bs : List Nat) (off : Nat) : Nat → Nat
  | 0 => 0
  | w + 1 => 2 * fld bs off w + bit bs (off + w)
theorem bit_lt (bs : List Nat) (i : Nat) : bit bs i < 2 := Nat.mod_lt _ (by omega)
theorem fld_lt (bs : List Nat) (off : Nat) : ∀ w, fld bs off w < 2 ^ w
  | 0 => by simp [fld]
  | w + 1 => by
    have h1 := fld_lt bs off w
    have h2 := bit_lt bs (off + w)
    rw [fld, Nat.pow_succ]
    omega
theorem fld_add (bs : List Nat) (off m : Nat) : ∀ n, fld bs off (m + n) = fld bs off m * 2 ^ n + fld bs (off + m) n
  | 0 => by simp [fld]
  | n + 1 => by
    rw [show m + (n + 1) = (m + n) + 1 from rfl, fld, fld_add bs off m n, fld, Nat.pow_succ, Nat.add_assoc off m n, Nat.mul_add, Nat.add_assoc]
    congr 1
    rw [Nat.mul_comm 2, Nat.mul_assoc]
theorem fld_in (bs : List Nat) (off : Nat) : ∀ n, off % 8 + n ≤ 8 → fld bs off n = bs.getD (off / 8) 0 / 2 ^ (8 - off % 8 - n) % 2 ^ n
  | 0, _ => by simp [fld, Nat.mod_one]
  | n + 1, h => by
    rw [fld, fld_in bs off n (by omega)]
    have e1 : (off + n) / 8 = off / 8 := by omega
    have e2 : (off + n) % 8 = off % 8 + n := by omega
    unfold bit
    rw [e1, e2]
    have e3 : 8 - off % 8 - n = (8 - off % 8 - (n + 1)) + 1 := by omega
    have e4 : 7 - (off % 8 + n) = 8 - off % 8 - (n + 1) := by omega
    rw [e3, e4, Nat.pow_succ, ← Nat.div_div_eq_div_mul]
    generalize bs.getD (off / 8) 0 / 2 ^ (8 - off % 8 - (n + 1)) = X
    rw [Nat.pow_succ, Nat.mul_comm (2 ^ n) 2, Nat.mod_mul]
    omega
/-- a chunk within one byte, laid behind what has been read -/
theorem fld_chunk (bs : List Nat) (off m n : Nat) (h : (off + m) % 8 + n ≤ 8) : fld bs off (m + n) = fld bs off m * 2 ^ n + bs.getD ((off + m) / 8) 0 / 2 ^ (8 - (off + m) % 8 - n) % 2 ^ n := by
  rw [fld_add, fld_in bs (off + m) n h]
end Go.Proofs.Qxb6630159aFmt
