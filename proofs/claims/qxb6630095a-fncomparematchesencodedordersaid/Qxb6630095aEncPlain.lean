import Derived.Lib.Bytealg
namespace Go.Proofs.Qxb6630095a.Enc
open Go.Lib (compareBytes)

/-- zzEncStr's code of a string: 0 becomes 0 255; the end is 0 1. -/
def encB (c : UInt8) : List UInt8 := if c = 0 then [0, 255] else [c]
def encS (s : List UInt8) : List UInt8 := s.flatMap encB ++ [0, 1]
theorem encS_nil : encS [] = [0, 1] := rfl
theorem encS_cons (c : UInt8) (s : List UInt8) : encS (c :: s) = encB c ++ encS s := by simp [encS]

/-- Two byte strings part: at their first difference the first has the lesser byte (-1), or the greater (1). Neither begins the other. -/
def Parts (p q : List UInt8) (r : Int) : Prop := ∃ u a b p' q', p = u ++ a :: p' ∧ q = u ++ b :: q' ∧ ((a < b ∧ r = -1) ∨ (b < a ∧ r = 1))
theorem Parts.pre {p q : List UInt8} {r : Int} (h : Parts p q r) (u : List UInt8) : Parts (u ++ p) (u ++ q) r := by
  obtain ⟨v, a, b, p', q', rfl, rfl, hr⟩ := h
  exact ⟨u ++ v, a, b, p', q', by simp, by simp, hr⟩
theorem Parts.post {p q : List UInt8} {r : Int} (h : Parts p q r) (s t : List UInt8) : Parts (p ++ s) (q ++ t) r := by
  obtain ⟨v, a, b, p', q', rfl, rfl, hr⟩ := h
  exact ⟨v, a, b, p' ++ s, q' ++ t, by simp, by simp, hr⟩
theorem Parts.swap {p q : List UInt8} {r : Int} (h : Parts p q r) : Parts q p (-r) := by
  obtain ⟨v, a, b, p', q', rfl, rfl, hr⟩ := h
  refine ⟨v, b, a, q', p', rfl, rfl, ?_⟩
  rcases hr with ⟨h, rfl⟩ | ⟨h, rfl⟩
  · exact .inr ⟨h, rfl⟩
  · exact .inl ⟨h, rfl⟩
theorem Parts.cmp {p q : List UInt8} {r : Int} (h : Parts p q r) : compareBytes p q = r := by
  obtain ⟨u, a, b, p', q', rfl, rfl, hr⟩ := h
  induction u with
  | nil =>
    rcases hr with ⟨h, rfl⟩ | ⟨h, rfl⟩
    · simp [compareBytes, h]
    · have h' : ¬ a < b := by rw [UInt8.not_lt]; exact UInt8.le_of_lt h
      simp [compareBytes, h, h']
  | cons c u ih =>
    have hc : ¬ c < c := UInt8.lt_irrefl c
    simp only [List.cons_append, compareBytes, hc, if_false]
    exact ih
theorem Parts.not_prefix {p q : List UInt8} {r : Int} (h : Parts p q r) : ¬ p <+: q := by
  obtain ⟨u, a, b, p', q', rfl, rfl, hr⟩ := h
  intro ⟨t, ht⟩
  rw [List.append_assoc] at ht
  have := List.append_cancel_left ht
  simp at this
  obtain ⟨rfl, _⟩ := this
  rcases hr with ⟨h, _⟩ | ⟨h, _⟩ <;> exact UInt8.lt_irrefl _ h
theorem Parts.ne {p q : List UInt8} {r : Int} (h : Parts p q r) : r ≠ 0 := by
  obtain ⟨u, a, b, p', q', _, _, hr⟩ := h
  rcases hr with ⟨_, rfl⟩ | ⟨_, rfl⟩ <;> decide

theorem cmp_zero : ∀ (s t : List UInt8), compareBytes s t = 0 → s = t
  | [], [], _ => rfl
  | [], _ :: _, h => by simp [compareBytes] at h
  | _ :: _, [], h => by simp [compareBytes] at h
  | a :: s, b :: t, h => by
    unfold compareBytes at h
    by_cases h1 : a < b
    · rw [if_pos h1] at h; cases h
    · rw [if_neg h1] at h
      by_cases h2 : b < a
      · rw [if_pos h2] at h; cases h
      · rw [if_neg h2] at h
        have e : a = b := UInt8.le_antisymm (UInt8.not_lt.1 h2) (UInt8.not_lt.1 h1)
        rw [e, cmp_zero s t h]

theorem one_le {c : UInt8} (h : c ≠ 0) : (0 : UInt8) < c := by
  rw [UInt8.lt_iff_toNat_lt]
  have : c.toNat ≠ 0 := fun e => h (UInt8.toNat_inj.1 (by simpa using e))
  simpa using Nat.pos_of_ne_zero this

/-- THE CODE KEEPS THE ORDER, AND NO CODE IS ANOTHER's PREFIX. -/
theorem enc_parts : ∀ (s t : List UInt8), compareBytes s t ≠ 0 → Parts (encS s) (encS t) (compareBytes s t)
  | [], [], h => absurd rfl h
  | [], c :: t, _ => by
    have e : compareBytes [] (c :: t) = -1 := rfl
    rw [e, encS_nil, encS_cons]
    by_cases hc : c = 0
    · subst hc
      exact ⟨[0], 1, 255, [], encS t, rfl, by simp [encB], .inl ⟨by decide, rfl⟩⟩
    · exact ⟨[], 0, c, [1], encS t, rfl, by simp [encB, hc], .inl ⟨one_le hc, rfl⟩⟩
  | c :: s, [], _ => by
    have e : compareBytes (c :: s) [] = 1 := rfl
    rw [e, encS_nil, encS_cons]
    by_cases hc : c = 0
    · subst hc
      exact ⟨[0], 255, 1, encS s, [], by simp [encB], rfl, .inr ⟨by decide, rfl⟩⟩
    · exact ⟨[], c, 0, encS s, [1], by simp [encB, hc], rfl, .inr ⟨one_le hc, rfl⟩⟩
  | a :: s, b :: t, h => by
    rw [encS_cons, encS_cons]
    by_cases hab : a = b
    · subst hab
      have hc : ¬ a < a := UInt8.lt_irrefl a
      have e : compareBytes (a :: s) (a :: t) = compareBytes s t := by simp [compareBytes, hc]
      rw [e] at h ⊢
      exact (enc_parts s t h).pre _
    · by_cases h1 : a < b
      · have e : compareBytes (a :: s) (b :: t) = -1 := by simp [compareBytes, h1]
        rw [e]
        have hb : b ≠ 0 := fun e => by subst e; exact absurd h1 (by rw [UInt8.not_lt]; exact UInt8.zero_le)
        by_cases ha : a = 0
        · subst ha
          exact ⟨[], 0, b, 255 :: encS s, encS t, by simp [encB], by simp [encB, hb], .inl ⟨h1, rfl⟩⟩
        · exact ⟨[], a, b, encS s, encS t, by simp [encB, ha], by simp [encB, hb], .inl ⟨h1, rfl⟩⟩
      · have h2 : b < a := UInt8.lt_of_le_of_ne (UInt8.not_lt.1 h1) (Ne.symm hab)
        have e : compareBytes (a :: s) (b :: t) = 1 := by simp [compareBytes, h1, h2]
        rw [e]
        have ha : a ≠ 0 := fun e => by subst e; exact absurd h2 (by rw [UInt8.not_lt]; exact UInt8.zero_le)
        by_cases hb : b = 0
        · subst hb
          exact ⟨[], a, 0, encS s, 255 :: encS t, by simp [encB, ha], by simp [encB], .inr ⟨h2, rfl⟩⟩
        · exact ⟨[], a, b, encS s, encS t, by simp [encB, ha], by simp [encB, hb], .inr ⟨h2, rfl⟩⟩
end Go.Proofs.Qxb6630095a.Enc
