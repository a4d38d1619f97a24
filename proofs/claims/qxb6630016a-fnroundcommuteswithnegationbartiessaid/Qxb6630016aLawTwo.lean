import Derived.Test.Qxb6630016aWalks
import Derived.OpenShut
import Derived.Deep.RegionHeld3
namespace Go.Proofs.Qxb6630016a
open Go.RowKit

theorem neg_emod (i u : Int) (hu : 1 ≤ u) : (i % u = 0 ∧ (-i) % u = 0) ∨ (0 < i % u ∧ (-i) % u = u - i % u) := by
  have h1 := Int.emod_nonneg i (show u ≠ 0 by omega)
  have h2 := Int.emod_lt_of_pos i (show 0 < u by omega)
  have e := Int.emod_add_mul_ediv i u
  by_cases h : i % u = 0
  · left
    refine ⟨h, ?_⟩
    have hd : u ∣ i := Int.dvd_of_emod_eq_zero h
    exact Int.emod_eq_zero_of_dvd (Int.dvd_neg.2 hd)
  · right
    refine ⟨by omega, ?_⟩
    have e2 : -i = (u - i % u) + u * (-(i / u) - 1) := by
      rw [Int.mul_sub, Int.mul_neg, Int.mul_one]; omega
    rw [e2, Int.add_mul_emod_self_left]
    exact Int.emod_eq_of_lt (by omega) (by omega)
theorem sum_tie (i u : Int) (hu : 1 ≤ u) (h : 2 * (i % u) = u) : rnd i u + rnd (-i) u = u := by
  have h2 := Int.emod_lt_of_pos i (show 0 < u by omega)
  rcases neg_emod i u hu with ⟨a, b⟩ | ⟨a, b⟩
  · omega
  · unfold rnd
    rw [b]
    split <;> split <;> omega
theorem sum_no (i u : Int) (hu : 1 ≤ u) (h : ¬ 2 * (i % u) = u) : rnd i u + rnd (-i) u = 0 := by
  have h2 := Int.emod_lt_of_pos i (show 0 < u by omega)
  rcases neg_emod i u hu with ⟨a, b⟩ | ⟨a, b⟩
  · unfold rnd
    rw [a, b]
    split <;> omega
  · unfold rnd
    rw [b]
    split <;> split <;> omega

set_option maxHeartbeats 2000000 in
theorem two_main (i p0 p u ra rb t : Int) (hp : 0 ≤ p) (hp2 : p ≤ 9223372036854775807) (hi1 : -9223372036853727231 ≤ i) (hi2 : i ≤ 9223372036853727231)
    (hu1 : 1 ≤ u) (hu2 : u ≤ 1000000) (HU : Hid (pw (6 - p).toNat = u)) (HA : Hid (rnd i u = ra)) (HB : Hid (rnd (-i) u = rb))
    (hza : ra.tmod u = 0) (hzb : rb.tmod u = 0) (hn1 : -u < 2 * (ra - i)) (hn2 : 2 * (ra - i) ≤ u) (hn3 : -u < 2 * (rb + i)) (hn4 : 2 * (rb + i) ≤ u) (ht : i.tmod u = t) (ht1 : -u < t) (ht2 : t < u)
    (F1 : Hid (t < 0 → 2 * (t + u) = u → ra + rb = u)) (F2 : Hid (t < 0 → ¬ 2 * (t + u) = u → ra + rb = 0)) (F3 : Hid (0 ≤ t → 2 * t = u → ra + rb = u)) (F4 : Hid (0 ≤ t → ¬ 2 * t = u → ra + rb = 0)) (w : World) :
    Calls Try.prog 4 #[.int .i64 i, .int .i64 p0, .int .i64 p] w fun e w' => e = .returned (.bool true) ∧ Grown w w' := by
  go_enter Try.func4, Try.ntmps4
  go_wp2_with fail
  go_loop [7, 8] (fun t j => ∃ n : Nat, n ≤ (6 - p).toNat ∧ j = .int .i64 (p + n) ∧ t = .int .i64 (pw n)) (fun _ j => (6 - intOf j).toNat)
  case atStart => exact ⟨0, Nat.zero_le _, by go_num, rfl⟩
  case round =>
    obtain ⟨n, hn, rfl, rfl⟩ := hrel
    have hb := pw_le n (by omega)
    by_cases hlt : p + (n : Int) < 6
    · have HS : Hid (pw (n + 1) = pw n * 10) := pw_succ n
      go_wp2
      go_round
      case rel => exact ⟨n + 1, by omega, by go_num, by rw [HS.out]⟩
      case measure => simp [intOf]; omega
    · have HE : Hid (pw n = u) := by rw [← HU.out]; congr 1; omega
      rw [HE.out]
      clear hb hn
      go_wp2_with fail
      refine (dta_any _ _ _).mono ?_; rintro e w' ⟨rfl, c1, rfl⟩
      go_wp2_with fail
      refine (round_any _ _ _ u ra hp hp2 (by omega) (by omega) HU HA _).mono ?_; rintro e w' ⟨rfl, d1, d2, d3, rfl⟩
      go_wp2_with fail
      refine (dta_any _ _ _).mono ?_; rintro e w' ⟨rfl, c2, rfl⟩
      go_wp2_with fail
      refine (round_any _ _ _ u rb hp hp2 (by omega) (by omega) HU HB _).mono ?_; rintro e w' ⟨rfl, d4, d5, d6, rfl⟩
      go_wp2_with (go_at_call 7; refine (zz_any _ _ _).mono ?_; rintro e w' ⟨rfl, c, rfl⟩)
      go_region_held3 (fun w' => w'.cell? ⟨w.heap.size + 1 + 1 + 1 + 1, 0, none⟩ = some (.int .u8 5) ∧ w'.cell? ⟨w.heap.size + 1 + 1 + 1 + 1, 1, none⟩ = some (.int .u8 (p % 256)) ∧ w'.cell? ⟨w.heap.size + 1 + 1 + 1 + 1, 2, none⟩ = some (.int .i32 0) ∧ w'.cell? ⟨w.heap.size + 1 + 1 + 1 + 1, 3, none⟩ = some (.int .i64 ra) ∧ w'.cell? ⟨w.heap.size + 1 + 1 + 1 + 1, 4, none⟩ = some (.string { data := #[] }) ∧ w'.cell? ⟨w.heap.size + 1 + 1 + 1 + 1 + 1 + 1 + 1 + 1 + 1, 0, none⟩ = some (.int .u8 5) ∧ w'.cell? ⟨w.heap.size + 1 + 1 + 1 + 1 + 1 + 1 + 1 + 1 + 1, 1, none⟩ = some (.int .u8 (p % 256)) ∧ w'.cell? ⟨w.heap.size + 1 + 1 + 1 + 1 + 1 + 1 + 1 + 1 + 1, 2, none⟩ = some (.int .i32 0) ∧ w'.cell? ⟨w.heap.size + 1 + 1 + 1 + 1 + 1 + 1 + 1 + 1 + 1, 3, none⟩ = some (.int .i64 rb) ∧ w'.cell? ⟨w.heap.size + 1 + 1 + 1 + 1 + 1 + 1 + 1 + 1 + 1, 4, none⟩ = some (.string { data := #[] })) (simp [go_sem, World.cell?_alloc_past])
        ((go_at_call 5; refine (dta_any _ _ _).mono ?_; rintro e w' ⟨rfl, c5, rfl⟩))
      by_cases h1 : t < 0
      · by_cases h2 : 2 * (t + u) = u
        · have hs := F1.out h1 h2
          go_wp2
          go_ret
          refine ⟨rfl, Grown.drew ?_⟩
          repeat (refine Grown.alloc ?_ _ _)
          exact Grown.refl _
        · have hs := F2.out h1 h2
          go_wp2
          go_ret
          refine ⟨rfl, Grown.drew ?_⟩
          repeat (refine Grown.alloc ?_ _ _)
          exact Grown.refl _
      · by_cases h2 : 2 * t = u
        · have hs := F3.out (by omega) h2
          go_wp2
          go_ret
          refine ⟨rfl, Grown.drew ?_⟩
          repeat (refine Grown.alloc ?_ _ _)
          exact Grown.refl _
        · have hs := F4.out (by omega) h2
          go_wp2
          go_ret
          refine ⟨rfl, Grown.drew ?_⟩
          repeat (refine Grown.alloc ?_ _ _)
          exact Grown.refl _

theorem two_walk (a0 : Int) (a1 : Int) (a2 : Int) (w2 : (Lit.int .i64 a2).wf = true) (w : World) :
    Calls Try.prog 4 #[.int .i64 a0, .int .i64 a1, .int .i64 a2] w fun e w' => e = .returned (.bool true) ∧ Grown w w' := by
  have b2 := bounds_i64 w2
  by_cases h1 : 9223372036853727231 < a0
  · go_enter Try.func4, Try.ntmps4
    go_wp2
    go_ret
    exact ⟨rfl, Grown.refl _⟩
  by_cases h2 : a0 < -9223372036853727231
  · go_enter Try.func4, Try.ntmps4
    go_wp2
    go_ret
    exact ⟨rfl, Grown.refl _⟩
  by_cases h3 : a2 < 0
  · go_enter Try.func4, Try.ntmps4
    go_wp2
    go_ret
    exact ⟨rfl, Grown.refl _⟩
  have hu := pw_le (6 - a2).toNat (by omega)
  obtain ⟨u, hgu⟩ : ∃ u, pw (6 - a2).toNat = u := ⟨_, rfl⟩
  rw [hgu] at hu
  have hn := rnd_near a0 u hu.1
  have hn' := rnd_near (-a0) u hu.1
  have hb := tmod_bd a0 u hu.1
  refine two_main a0 a1 a2 u _ _ _ (by omega) b2.2 (by omega) (by omega) hu.1 hu.2 hgu rfl rfl (rnd_tmod _ _) (rnd_tmod _ _) hn.1 hn.2 (by omega) (by omega) rfl hb.1 hb.2 ?_ ?_ ?_ ?_ w
  · intro a b
    rw [emod_of_tmod_neg a0 u hu.1 a] at b
    exact sum_tie a0 u hu.1 b
  · intro a b
    rw [emod_of_tmod_neg a0 u hu.1 a] at b
    exact sum_no a0 u hu.1 b
  · intro a b
    rw [emod_of_tmod_nonneg a0 u hu.1 a] at b
    exact sum_tie a0 u hu.1 b
  · intro a b
    rw [emod_of_tmod_nonneg a0 u hu.1 a] at b
    exact sum_no a0 u hu.1 b
end Go.Proofs.Qxb6630016a
