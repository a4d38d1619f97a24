import Derived.Test.Qxb6630095aPlain
import Derived.Test.Qxb6630095aEncPlain
namespace Go.Proofs.Qxb6630095a
open Enc
open Go.Lib (compareBytes)

/-- zzEnc's code of a label set. -/
def encL (xs : List (ByteArray × ByteArray)) : List UInt8 := xs.flatMap fun p => encS p.1.data.toList ++ encS p.2.data.toList
theorem encL_cons (x : ByteArray × ByteArray) (xs : List (ByteArray × ByteArray)) : encL (x :: xs) = encS x.1.data.toList ++ (encS x.2.data.toList ++ encL xs) := by simp [encL]

theorem law (xs ys : List (ByteArray × ByteArray)) : Parts (encL xs) (encL ys) (cmpLab xs ys) ∨ ((encL xs <+: encL ys ∨ encL ys <+: encL xs) ∧ cmpLab xs ys = (xs.length : Int) - ys.length) := by
  induction xs generalizing ys with
  | nil =>
    right
    refine ⟨.inl (List.nil_prefix), ?_⟩
    rw [cmpLab_nil_left]; simp
  | cons x xs ih =>
    cases ys with
    | nil =>
      right
      refine ⟨.inr (List.nil_prefix), ?_⟩
      rw [cmpLab_nil_right]; simp
    | cons y ys =>
      rw [encL_cons, encL_cons]
      unfold cmpLab
      by_cases h1 : compareBytes x.1.data.toList y.1.data.toList = 0
      · rw [if_pos h1]
        have e1 := cmp_zero _ _ h1
        by_cases h2 : compareBytes x.2.data.toList y.2.data.toList = 0
        · rw [if_pos h2]
          have e2 := cmp_zero _ _ h2
          rw [e1, e2]
          rcases ih ys with h | ⟨h, hl⟩
          · exact .inl ((h.pre _).pre _)
          · right
            refine ⟨?_, by rw [hl]; simp; omega⟩
            rcases h with h | h
            · exact .inl ((List.prefix_append_right_inj _).2 ((List.prefix_append_right_inj _).2 h))
            · exact .inr ((List.prefix_append_right_inj _).2 ((List.prefix_append_right_inj _).2 h))
        · rw [if_neg h2, e1]
          exact .inl (((enc_parts _ _ h2).post _ _).pre _)
      · rw [if_neg h1]
        exact .inl ((enc_parts _ _ h1).post _ _)
theorem law_pre (xs ys : List (ByteArray × ByteArray)) (h : encL xs <+: encL ys ∨ encL ys <+: encL xs) : cmpLab xs ys = (xs.length : Int) - ys.length := by
  rcases law xs ys with k | ⟨_, k⟩
  · rcases h with h | h
    · exact absurd h k.not_prefix
    · exact absurd h k.swap.not_prefix
  · exact k
theorem law_cmp (xs ys : List (ByteArray × ByteArray)) (h : ¬ (encL xs <+: encL ys ∨ encL ys <+: encL xs)) : cmpLab xs ys = compareBytes (encL xs) (encL ys) := by
  rcases law xs ys with k | ⟨k, _⟩
  · exact k.cmp.symm
  · exact absurd k h
theorem law_back (xs ys : List (ByteArray × ByteArray)) : cmpLab ys xs = -cmpLab xs ys := by
  by_cases h : encL xs <+: encL ys ∨ encL ys <+: encL xs
  · rw [law_pre xs ys h, law_pre ys xs h.symm]; omega
  · rcases law xs ys with k | ⟨k, _⟩
    · rw [law_cmp ys xs (fun e => h e.symm), k.swap.cmp]
    · exact absurd k h

/-- how long the codes are -/
theorem encB_le (c : UInt8) : (encB c).length ≤ 2 := by unfold encB; split <;> simp
theorem flat_le (l : List UInt8) : (l.flatMap encB).length ≤ 2 * l.length := by
  induction l with
  | nil => simp
  | cons c l ih =>
    have := encB_le c
    simp only [List.flatMap_cons, List.length_append, List.length_cons]; omega
theorem encS_le (l : List UInt8) : (encS l).length ≤ 2 * l.length + 2 := by
  have := flat_le l
  simp only [encS, List.length_append, List.length_cons, List.length_nil]; omega
/-- the bytes of all strings, and one for each label -/
def tot (xs : List (ByteArray × ByteArray)) : Nat := (xs.map fun p => p.1.size + p.2.size).sum
theorem tot_cons (x : ByteArray × ByteArray) (xs : List (ByteArray × ByteArray)) : tot (x :: xs) = x.1.size + x.2.size + tot xs := by simp [tot]
theorem encL_le (xs : List (ByteArray × ByteArray)) : (encL xs).length ≤ 2 * tot xs + 4 * xs.length := by
  induction xs with
  | nil => simp [encL, tot]
  | cons x xs ih =>
    have h1 := encS_le x.1.data.toList
    have h2 := encS_le x.2.data.toList
    rw [encL_cons, tot_cons]
    simp only [List.length_append, List.length_cons]
    have e1 : x.1.data.toList.length = x.1.size := by simp
    have e2 : x.2.data.toList.length = x.2.size := by simp
    omega
end Go.Proofs.Qxb6630095a
