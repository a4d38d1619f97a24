import Derived.Test.Qxb6630069aWalks
namespace Go.Proofs.Qxb6630069a
open Go.RowKit Go.Maps

/-- What the loop over the map has gathered, 'left' being what is still to come. -/
def Gath (f : Int → Option Int) (left : Lit → Bool) (r : Int) : Prop :=
  0 ≤ r ∧ r ≤ 3 ∧ (∀ x c, f x = some c → left (.int .i64 x) = false → rankV c ≤ r) ∧ (r = 0 ∨ ∃ x c, f x = some c ∧ rankV c = r) ∧ ∀ x, left (.int .i64 x) = true → (f x).isSome = true
theorem gath_start {H : Type} {D : DataW H} {f : Int → Option Int} (h : Rep D f) : Gath f (Maps.has D) 0 :=
  ⟨by omega, by omega, fun x c hx hl => (by rw [h.2.1, hx] at hl; cases hl), .inl rfl, fun x hx => by rw [← h.2.1]; exact hx⟩
theorem gath_step {H : Type} {D : DataW H} {f : Int → Option Int} (h : Rep D f) {left : Lit → Bool} {r x c : Int} (hg : Gath f left r) (hl : left (.int .i64 x) = true) (hat : ∀ z, D.atKey (.int .i64 x) z = .lit (.int .i8 c)) :
    Gath f (fun z => left z && !z.sameKey (.int .i64 x)) (if r < rankV c then rankV c else r) := by
  obtain ⟨g0, g3, g1, g2, g4⟩ := hg
  have hb := rankV_bd c
  have hfx : f x = some c := by
    obtain ⟨c', hc'⟩ := Option.isSome_iff_exists.1 (g4 x hl)
    have e := (h.2.2 x c' hc' (.lit (.int .i8 0))).symm.trans (hat _)
    cases e; exact hc'
  refine ⟨by split <;> omega, by split <;> omega, ?_, ?_, ?_⟩
  · intro y d hy hly
    by_cases e : y = x
    · subst e; rw [hfx] at hy; cases hy; split <;> omega
    · have hne : (Lit.int .i64 y).sameKey (.int .i64 x) = false := sameKey_ne (by simpa using e)
      simp [hne] at hly
      have := g1 y d hy hly
      split <;> omega
  · by_cases hr : r < rankV c
    · rw [if_pos hr]; exact .inr ⟨x, c, hfx, rfl⟩
    · rw [if_neg hr]; exact g2
  · intro y hy
    simp at hy
    exact g4 y hy.1
theorem gath_end {f : Int → Option Int} {left : Lit → Bool} {r : Int} (hg : Gath f left r) (h : ∀ kl, left kl = false) : Worst f r :=
  ⟨hg.1, hg.2.1, fun x c hx => hg.2.2.1 x c hx (h _), hg.2.2.2.1⟩

set_option maxRecDepth 100000 in
set_option maxHeartbeats 400000 in
theorem worst_any {H : Type} (b n : Nat) (D : DataW H) (f : Int → Option Int) (hrep : Rep D f) (w : World) (hown : w.ownsMap Try.prog 29 (plainElem Try.prog 28) b n D) :
    Calls Try.prog 7 #[.map (some b)] w fun e w' => ∃ t, e = .returned (.int .i64 t) ∧ (Maps.size D = 0 → t = 0) ∧ (Maps.size D ≠ 0 → ∃ r, t = trR r ∧ Worst f r) ∧ w.grownBy w' none := by
  by_cases hs : Maps.size D = 0
  · have hd : (Maps.size D : Int) = 0 := by omega
    go_enter Try.func7, Try.ntmps7
    go_wp2_with (at_len; refine wpList_len_own _ rfl _ 27 rfl 29 28 Try.underlying27 _ b n D rfl hown ?_)
    go_ret
    exact ⟨0, rfl, fun _ => rfl, fun h => absurd hs h, ⟨rfl, rfl, rfl, Nat.le_refl _, fun _ _ _ => rfl⟩⟩
  · have hd : ((Maps.size D : Int) == 0) = false := by simpa using hs
    go_enter Try.func7, Try.ntmps7
    go_wp2_with (first
      | (at_len; refine wpList_len_own _ rfl _ 27 rfl 29 28 Try.underlying27 _ b n D rfl hown ?_)
      | (at_range; refine wpList_range_own _ rfl _ 27 rfl 29 28 law29 Try.underlying27 _ b n _ rfl hown ?_; intro w0 hrg0 hg0 hs0))
    go_frame
    go_loopw [3] (fun v wr => ∃ (left : Lit → Bool) (cnt : Nat) (r : Int), wr.ranges Try.prog 29 (plainElem Try.prog 28) b w.heap.size n D left cnt ∧ v = .int .i64 (trR r) ∧ Gath f left r ∧ w.grownBy wr none)
      (fun _ wr => wr.rangeLeft b w.heap.size)
    case atStart => exact ⟨_, _, 0, hrg0, rfl, gath_start hrep, hg0⟩
    case round =>
      obtain ⟨left, cnt, r, hrg, rfl, hG, hgw⟩ := hrel
      go_wp2_with (at_next; refine wpList_next_ranges_ii _ rfl _ rfl 29 28 .i64 .i8 law29 Try.underlying29 Try.underlying28 b w.heap.size n _ _ _ rfl hrg ?_ ?_)
      · intro _ hl0
        go_wp2
        go_ret
        exact ⟨_, rfl, fun h => absurd h hs, fun _ => ⟨r, rfl, gath_end hG hl0⟩, hgw⟩
      · intro x c w1 cnt1 hwx hwc hlx hat hrg1 hlt hg1 hs1 hen
        have hgw1 := hgw.andThen hg1 (fun j hj => by cases hj; exact Or.inl (Nat.le_refl _))
        have hG1 := gath_step hrep hG hlx hat
        have hb := rankV_bd c
        have hr0 := hG.1
        have hr3 := hG.2.1
        clear hat
        by_cases hc : r < rankV c
        · rw [if_pos hc] at hG1
          go_wp2_with (first
            | (go_at_call 12; refine (tierOf_any _ _).mono ?_; rintro e w' ⟨rfl, rfl⟩)
            | (go_at_call 13; refine (worse_any _ _ hb.1 hb.2 hr0 hr3 _).mono ?_; rintro e w' ⟨rfl, rfl⟩))
          go_roundw
          case rel => exact ⟨_, cnt1, _, hrg1, rfl, hG1, hgw1⟩
          case measure => rw [hrg1.left_eq, hrg.left_eq]; exact hlt
        · rw [if_neg hc] at hG1
          go_wp2_with (first
            | (go_at_call 12; refine (tierOf_any _ _).mono ?_; rintro e w' ⟨rfl, rfl⟩)
            | (go_at_call 13; refine (worse_any _ _ hb.1 hb.2 hr0 hr3 _).mono ?_; rintro e w' ⟨rfl, rfl⟩))
          go_roundw
          case rel => exact ⟨_, cnt1, _, hrg1, rfl, hG1, hgw1⟩
          case measure => rw [hrg1.left_eq, hrg.left_eq]; exact hlt
end Go.Proofs.Qxb6630069a
