import Derived.Maps.OwnSet
namespace Go.Proofs.Qxb6630069a
open Go.Maps

/-- the rank of a claim's value: zzRankOfValue -/
def rankV (x : Int) : Int :=
  if -1 ≤ x ∧ x ≤ 1 then 1 else if (2 ≤ x ∧ x ≤ 31) ∨ (-32 ≤ x ∧ x ≤ -2) then 0 else if (32 ≤ x ∧ x ≤ 95) ∨ (-96 ≤ x ∧ x ≤ -33) then 2 else 3
/-- the tier of a rank: zzTierOfRank at 0 .. 3 -/
def trR (r : Int) : Int := if r = 0 then 2 else if r = 1 then 0 else if r = 2 then 32 else 96
theorem rankV_bd (x : Int) : 0 ≤ rankV x ∧ rankV x ≤ 3 := by
  unfold rankV; repeat' split
  all_goals omega
theorem rankV_1 (x : Int) (h : -1 ≤ x ∧ x ≤ 1) : rankV x = 1 := by unfold rankV; rw [if_pos h]
theorem rankV_0 (x : Int) (h : (2 ≤ x ∧ x ≤ 31) ∨ (-32 ≤ x ∧ x ≤ -2)) : rankV x = 0 := by unfold rankV; rw [if_neg (by omega), if_pos h]
theorem rankV_2 (x : Int) (h : (32 ≤ x ∧ x ≤ 95) ∨ (-96 ≤ x ∧ x ≤ -33)) : rankV x = 2 := by unfold rankV; rw [if_neg (by omega), if_neg (by omega), if_pos h]
theorem rankV_3 (x : Int) (h : 96 ≤ x ∨ x ≤ -97) : rankV x = 3 := by unfold rankV; rw [if_neg (by omega), if_neg (by omega), if_neg (by omega)]

/-- r is the worst rank of what f holds. -/
def Worst (f : Int → Option Int) (r : Int) : Prop := 0 ≤ r ∧ r ≤ 3 ∧ (∀ x c, f x = some c → rankV c ≤ r) ∧ (r = 0 ∨ ∃ x c, f x = some c ∧ rankV c = r)
theorem Worst.unique {f : Int → Option Int} {r s : Int} (h : Worst f r) (k : Worst f s) : r = s := by
  obtain ⟨h0, _, h1, h2⟩ := h
  obtain ⟨k0, _, k1, k2⟩ := k
  have a : r ≤ s := by
    rcases h2 with h2 | ⟨x, c, hx, hr⟩
    · omega
    · have := k1 x c hx; omega
  have b : s ≤ r := by
    rcases k2 with k2 | ⟨x, c, hx, hr⟩
    · omega
    · have := h1 x c hx; omega
  omega

/-- f with x at k. -/
def upd (f : Int → Option Int) (k x : Int) : Int → Option Int := fun y => if y = k then some x else f y
theorem upd_same (f : Int → Option Int) (k x : Int) : upd f k x k = some x := if_pos rfl
theorem upd_other (f : Int → Option Int) {k y : Int} (x : Int) (h : y ≠ k) : upd f k x y = f y := if_neg h
theorem Worst.upd {f : Int → Option Int} {r : Int} (h : Worst f r) (k x : Int) (hk : f k = none) : Worst (upd f k x) (if r < rankV x then rankV x else r) := by
  obtain ⟨h0, h3, h1, h2⟩ := h
  have hb := rankV_bd x
  refine ⟨by split <;> omega, by split <;> omega, ?_, ?_⟩
  · intro y c hy
    by_cases e : y = k
    · subst e; rw [upd_same] at hy; cases hy; split <;> omega
    · rw [upd_other f x e] at hy; have := h1 y c hy; split <;> omega
  · by_cases hr : r < rankV x
    · rw [if_pos hr]; exact .inr ⟨k, x, upd_same f k x, rfl⟩
    · rw [if_neg hr]
      rcases h2 with h2 | ⟨y, c, hy, hc⟩
      · exact .inl h2
      · refine .inr ⟨y, c, ?_, hc⟩
        rw [upd_other f x (fun e => by rw [e, hk] at hy; cases hy)]; exact hy
theorem Worst.single {f : Int → Option Int} (hf : ∀ y, f y = none) (k x : Int) : Worst (Qxb6630069a.upd f k x) (rankV x) := by
  have hb := rankV_bd x
  refine ⟨hb.1, hb.2, ?_, .inr ⟨k, x, upd_same f k x, rfl⟩⟩
  intro y c hy
  by_cases e : y = k
  · subst e; rw [upd_same] at hy; cases hy; exact Int.le_refl _
  · rw [upd_other f x e, hf] at hy; cases hy

/-- The datum of a map reads as f. -/
def Rep {H : Type} (D : DataW H) (f : Int → Option Int) : Prop :=
  IsMap D ∧ (∀ x, Maps.has D (.int .i64 x) = (f x).isSome) ∧ ∀ x c, f x = some c → ∀ z, D.atKey (.int .i64 x) z = .lit (.int .i8 c)
theorem rep_empty {H : Type} : Rep (H := H) (.map []) (fun _ => none) := ⟨isMap_empty, fun _ => rfl, fun _ _ h => by cases h⟩
theorem Rep.put {H : Type} {D : DataW H} {f : Int → Option Int} (h : Rep D f) (k x : Int) : Rep (D.put (.int .i64 k) (.lit (.int .i8 x))) (upd f k x) := by
  obtain ⟨h0, h1, h2⟩ := h
  refine ⟨h0.put _ _, ?_, ?_⟩
  · intro y
    by_cases e : y = k
    · subst e; rw [has_put_same h0 (k := .int .i64 y) trivial, upd_same]; rfl
    · rw [has_put_other (by simpa using e), upd_other f x e]; exact h1 y
  · intro y c hy z
    by_cases e : y = k
    · subst e; rw [upd_same] at hy; cases hy; exact atKey_put_same h0 (k := .int .i64 y) trivial _ _
    · rw [upd_other f x e] at hy; rw [atKey_put_other (by simpa using e)]; exact h2 y c hy z
theorem Rep.size_ne {H : Type} {D : DataW H} {f : Int → Option Int} (h : Rep D f) {x c : Int} (hx : f x = some c) : Maps.size D ≠ 0 := by
  obtain ⟨⟨es, rfl⟩, h1, _⟩ := h
  have := h1 x
  rw [hx, has_eq] at this
  rw [size_eq]
  intro e
  rw [List.length_eq_zero_iff.1 e] at this
  cases this
theorem Rep.size_ne_none {H : Type} {D : DataW H} {f : Int → Option Int} (h : Rep D f) (hs : Maps.size D = 0) : ∀ y, f y = none := by
  intro y
  cases hy : f y
  · rfl
  · exact absurd hs (h.size_ne hy)

/-- What the first k of the pairs have laid. -/
def fill (ks vs : List Int) : Nat → Int → Option Int
  | 0 => fun _ => none
  | k + 1 => upd (fill ks vs k) (ks.getD k 0) (vs.getD k 0)
theorem fill_key (ks vs : List Int) (n j : Nat) (h : j < n) : ∃ c, fill ks vs n (ks.getD j 0) = some c := by
  induction n with
  | zero => omega
  | succ n ih =>
    unfold fill
    by_cases e : ks.getD j 0 = ks.getD n 0
    · rw [e, upd_same]; exact ⟨_, rfl⟩
    · rw [upd_other _ _ e]
      refine ih ?_
      by_cases e2 : j = n
      · subst e2; exact absurd rfl e
      · omega
theorem fill_some (ks vs : List Int) (n : Nat) (x c : Int) (h : fill ks vs n x = some c) : ∃ j, j < n ∧ ks.getD j 0 = x := by
  induction n with
  | zero => cases h
  | succ n ih =>
    unfold fill at h
    by_cases e : x = ks.getD n 0
    · exact ⟨n, by omega, e.symm⟩
    · rw [upd_other _ _ e] at h
      obtain ⟨j, hj, hx⟩ := ih h
      exact ⟨j, by omega, hx⟩
end Go.Proofs.Qxb6630069a
