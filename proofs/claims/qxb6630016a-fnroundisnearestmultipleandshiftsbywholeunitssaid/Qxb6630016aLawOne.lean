import Derived.Test.Qxb6630016aWalks
import Derived.OpenShut
import Derived.Deep.RegionHeld3
namespace Go.Proofs.Qxb6630016a
open Go.RowKit

set_option maxHeartbeats 1000000 in
theorem one_main (i p0 p k u r m : Int) (hmk : k * u = m) (hp : 0 ≤ p) (hp2 : p ≤ 9223372036854775807) (hi1 : -9223370937343148031 ≤ i) (hi2 : i ≤ 9223370937343148031) (hk1 : -65536 ≤ k) (hk2 : k ≤ 65536)
    (hu1 : 1 ≤ u) (hu2 : u ≤ 1000000) (HU : Hid (pw (6 - p).toNat = u)) (HR : Hid (rnd i u = r)) (HRk : Hid (rnd (i + m) u = r + m)) (hm1 : -65536000000 ≤ m) (hm2 : m ≤ 65536000000)
    (hz : r.tmod u = 0) (hn1 : -u < 2 * (r - i)) (hn2 : 2 * (r - i) ≤ u) (w : World) :
    Calls Try.prog 3 #[.int .i64 i, .int .i64 p0, .int .i64 p, .int .i64 k] w fun e w' => e = .returned (.bool true) ∧ Grown w w' := by
  have hw0 : IntKind.i64.wrap m = m := IntWalk.i64_in _ (by omega)
  have hw1 : IntKind.i64.wrap (r + m) = r + m := IntWalk.i64_in _ (by omega)
  go_enter Try.func3, Try.ntmps3
  go_wp2_with fail
  go_loop [9, 10] (fun t j => ∃ n : Nat, n ≤ (6 - p).toNat ∧ j = .int .i64 (p + n) ∧ t = .int .i64 (pw n)) (fun _ j => (6 - intOf j).toNat)
  case atStart => exact ⟨0, Nat.zero_le _, by go_num, rfl⟩
  case round =>
    obtain ⟨n, hn, rfl, rfl⟩ := hrel
    have hb := pw_le n (by omega)
    by_cases hlt : p + (n : Int) < 6
    · have HS : Hid (pw (n + 1) = pw n * 10) := pw_succ n
      go_wp2
      go_round
      case rel => exact ⟨n + 1, by omega, by go_num, by rw [HS.out]⟩
      case measure => simp [intOf]; omega
    · have HE : Hid (pw n = u) := by rw [← HU.out]; congr 1; omega
      rw [HE.out]
      clear hb hn
      go_wp2_with (first | (go_at_call 5; refine (dta_any _ _ _).mono ?_; rintro e w' ⟨rfl, c, rfl⟩) | (go_at_call 6; refine (round_any _ _ _ u r hp hp2 (by omega) (by omega) HU HR _).mono ?_; rintro e w' ⟨rfl, d1, d2, d3, rfl⟩) | (go_at_call 7; refine (zz_any _ _ _).mono ?_; rintro e w' ⟨rfl, c, rfl⟩))
      go_region_held3 (fun w' => w'.cell? ⟨w.heap.size + 1 + 1 + 1 + 1, 0, none⟩ = some (.int .u8 5) ∧ w'.cell? ⟨w.heap.size + 1 + 1 + 1 + 1, 1, none⟩ = some (.int .u8 (p % 256)) ∧ w'.cell? ⟨w.heap.size + 1 + 1 + 1 + 1, 2, none⟩ = some (.int .i32 0) ∧ w'.cell? ⟨w.heap.size + 1 + 1 + 1 + 1, 3, none⟩ = some (.int .i64 r) ∧ w'.cell? ⟨w.heap.size + 1 + 1 + 1 + 1, 4, none⟩ = some (.string { data := #[] })) (simp [go_sem, World.cell?_alloc_past])
        ((go_at_call 5; refine (dta_any _ _ _).mono ?_; rintro e w' ⟨rfl, c5, rfl⟩))
      go_wp2_with (first | (go_at_call 5; refine (dta_any _ _ _).mono ?_; rintro e w' ⟨rfl, c6, rfl⟩) | (go_at_call 6; refine (round_any _ _ _ u (r + m) hp hp2 (by omega) (by omega) HU HRk _).mono ?_; rintro e w' ⟨rfl, d4, d5, d6, rfl⟩))
      go_region_held3 (fun w' => w'.cell? ⟨w.heap.size + 1 + 1 + 1 + 1 + 1 + 1 + 1 + 1 + 1 + 1 + 1, 0, none⟩ = some (.int .u8 5) ∧ w'.cell? ⟨w.heap.size + 1 + 1 + 1 + 1 + 1 + 1 + 1 + 1 + 1 + 1 + 1, 1, none⟩ = some (.int .u8 (p % 256)) ∧ w'.cell? ⟨w.heap.size + 1 + 1 + 1 + 1 + 1 + 1 + 1 + 1 + 1 + 1 + 1, 2, none⟩ = some (.int .i32 0) ∧ w'.cell? ⟨w.heap.size + 1 + 1 + 1 + 1 + 1 + 1 + 1 + 1 + 1 + 1 + 1, 3, none⟩ = some (.int .i64 (r + m)) ∧ w'.cell? ⟨w.heap.size + 1 + 1 + 1 + 1 + 1 + 1 + 1 + 1 + 1 + 1 + 1, 4, none⟩ = some (.string { data := #[] })) (simp [go_sem, World.cell?_alloc_past])
        ((go_at_call 5; refine (dta_any _ _ _).mono ?_; rintro e w' ⟨rfl, c7, rfl⟩))
      go_wp2
      go_ret
      exact ⟨rfl, by repeat (first | exact Grown.refl _ | apply Grown.drew | apply Grown.alloc)⟩

theorem one_walk (a0 : Int) (a1 : Int) (a2 : Int) (a3 : Int) (w2 : (Lit.int .i64 a2).wf = true) (w : World) :
    Calls Try.prog 3 #[.int .i64 a0, .int .i64 a1, .int .i64 a2, .int .i64 a3] w fun e w' => e = .returned (.bool true) ∧ Grown w w' := by
  have b2 := bounds_i64 w2
  by_cases h1 : 9223370937343148031 < a0
  · go_enter Try.func3, Try.ntmps3
    go_wp2
    go_ret
    exact ⟨rfl, Grown.refl _⟩
  by_cases h2 : a0 < -9223370937343148031
  · go_enter Try.func3, Try.ntmps3
    go_wp2
    go_ret
    exact ⟨rfl, Grown.refl _⟩
  by_cases h3 : a2 < 0
  · go_enter Try.func3, Try.ntmps3
    go_wp2
    go_ret
    exact ⟨rfl, Grown.refl _⟩
  by_cases h4 : 65536 < a3
  · go_enter Try.func3, Try.ntmps3
    go_wp2
    go_ret
    exact ⟨rfl, Grown.refl _⟩
  by_cases h5 : a3 < -65536
  · go_enter Try.func3, Try.ntmps3
    go_wp2
    go_ret
    exact ⟨rfl, Grown.refl _⟩
  have hu := pw_le (6 - a2).toNat (by omega)
  have hm := mul_bd a3 (pw (6 - a2).toNat) (by omega) (by omega) hu.1 hu.2
  have hn := rnd_near a0 (pw (6 - a2).toNat) hu.1
  exact one_main a0 a1 a2 a3 _ _ _ rfl (by omega) b2.2 (by omega) (by omega) (by omega) (by omega) hu.1 hu.2 rfl rfl (rnd_shift _ _ _) hm.1 hm.2 (rnd_tmod _ _) hn.1 hn.2 w
end Go.Proofs.Qxb6630016a
