import Derived.Lib.Bytealg
namespace Go.Proofs.Qxb6630095a
open Go.Lib (compareBytes)

/-- storage.Compare over lists of labels (name, value). -/
def cmpLab : List (ByteArray × ByteArray) → List (ByteArray × ByteArray) → Int
  | x :: xs, y :: ys =>
    if compareBytes x.1.data.toList y.1.data.toList = 0 then
      if compareBytes x.2.data.toList y.2.data.toList = 0 then cmpLab xs ys else compareBytes x.2.data.toList y.2.data.toList
    else compareBytes x.1.data.toList y.1.data.toList
  | xs, ys => (xs.length : Int) - ys.length
theorem compareBytes_self : ∀ l : List UInt8, compareBytes l l = 0
  | [] => rfl
  | a :: l => by
    have h : ¬ a < a := UInt8.lt_irrefl a
    simp [compareBytes, h, compareBytes_self l]
theorem cmpLab_nil_left (ys : List (ByteArray × ByteArray)) : cmpLab [] ys = -(ys.length : Int) := by
  unfold cmpLab; simp
theorem cmpLab_nil_right (xs : List (ByteArray × ByteArray)) : cmpLab xs [] = (xs.length : Int) := by
  cases xs <;> (unfold cmpLab; simp)
theorem cmpLab_prefix (p xs ys : List (ByteArray × ByteArray)) : cmpLab (p ++ xs) (p ++ ys) = cmpLab xs ys := by
  induction p with
  | nil => rfl
  | cons x p ih => simp only [List.cons_append, cmpLab, compareBytes_self, if_true]; exact ih
theorem cmpLab_short (p xs : List (ByteArray × ByteArray)) : cmpLab p (p ++ xs) = -(xs.length : Int) := by
  have := cmpLab_prefix p [] xs
  rw [List.append_nil] at this
  rw [this, cmpLab_nil_left]
theorem cmpLab_long (p xs : List (ByteArray × ByteArray)) : cmpLab (p ++ xs) p = (xs.length : Int) := by
  have := cmpLab_prefix p xs []
  rw [List.append_nil] at this
  rw [this, cmpLab_nil_right]
/-- One round of Compare. -/
theorem cmpLab_step (xs ys : List (ByteArray × ByteArray)) (k : Nat) (hx : k < xs.length) (hy : k < ys.length) :
    cmpLab (xs.drop k) (ys.drop k) = if compareBytes xs[k].1.data.toList ys[k].1.data.toList = 0 then
      if compareBytes xs[k].2.data.toList ys[k].2.data.toList = 0 then cmpLab (xs.drop (k + 1)) (ys.drop (k + 1)) else compareBytes xs[k].2.data.toList ys[k].2.data.toList
    else compareBytes xs[k].1.data.toList ys[k].1.data.toList := by
  rw [List.drop_eq_getElem_cons hx, List.drop_eq_getElem_cons hy]
  conv => lhs; unfold cmpLab
theorem cmpLab_end (xs ys : List (ByteArray × ByteArray)) (k : Nat) (hkx : k ≤ xs.length) (hky : k ≤ ys.length) (h : ¬ (k < xs.length ∧ k < ys.length)) : cmpLab (xs.drop k) (ys.drop k) = (xs.length : Int) - ys.length := by
  by_cases hx : k < xs.length
  · have hy : ys.length ≤ k := by omega
    rw [List.drop_eq_nil_of_le hy, cmpLab_nil_right]; simp; omega
  · rw [List.drop_eq_nil_of_le (Nat.le_of_not_lt hx), cmpLab_nil_left]; simp; omega
end Go.Proofs.Qxb6630095a
