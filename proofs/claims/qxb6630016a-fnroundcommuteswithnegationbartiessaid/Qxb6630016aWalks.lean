import Derived.Test.Qxb6630016aRows
import Derived.WalkKit
import Derived.WalkSpells
import Derived.WalkLawsBesides
import Derived.RowKit3
namespace Go.Proofs.Qxb6630016a
open Go.RowKit

def pw (k : Nat) : Int := 10 ^ k
theorem pw_zero : pw 0 = 1 := rfl
theorem pw_succ (k : Nat) : pw (k + 1) = pw k * 10 := by unfold pw; rw [Int.pow_succ]
theorem pw_le (k : Nat) (h : k ≤ 6) : 1 ≤ pw k ∧ pw k ≤ 1000000 := by
  match k, h with
  | 0, _ => decide
  | 1, _ => decide
  | 2, _ => decide
  | 3, _ => decide
  | 4, _ => decide
  | 5, _ => decide
  | 6, _ => decide

set_option maxHeartbeats 400000 in
theorem dta_any (i p : Int) (w : World) :
    Calls Try.prog 5 #[.int .i64 i, .int .i64 p] w fun e w' => e = .returned (.agg #[.int .u8 5, .int .u8 (p % 256), .int .i32 0, .int .i64 i, .string { data := #[] }]) ∧ ∃ c : Array Value, w' = w.alloc (.cells c 26) := by
  go_enter Try.func5, Try.ntmps5
  go_wp2
  exact bodyPost_ret (v := .agg #[.int .u8 5, .int .u8 (p % 256), .int .i32 0, .int .i64 i, .string { data := #[] }]) (by simp [results, Try.results5, go_sem]) rfl ⟨rfl, _, rfl⟩

set_option maxHeartbeats 400000 in
theorem pow10_any (n : Int) (h : n ≤ 6) (h0 : -9223372036854775808 ≤ n) (w : World) :
    Calls Try.prog 8 #[.int .i64 n] w fun e w' => e = .returned (.int .i64 (pw n.toNat)) ∧ w' = w := by
  go_enter Try.func8, Try.ntmps8
  go_wp2
  go_loop [3, 5] (fun p i => ∃ k : Nat, k ≤ n.toNat ∧ i = .int .i64 k ∧ p = .int .i64 (pw k)) (fun _ i => n.toNat - (intOf i).toNat)
  case atStart => exact ⟨0, Nat.zero_le _, rfl, rfl⟩
  case round =>
    obtain ⟨k, hk, rfl, rfl⟩ := hrel
    have hb := pw_le k (by omega)
    by_cases hlt : (k : Int) < n
    · have HS : Hid (pw (k + 1) = pw k * 10) := pw_succ k
      go_wp2
      go_round
      case rel => exact ⟨k + 1, by omega, by go_num, by rw [HS.out]⟩
      case measure => simp [intOf]; omega
    · have hkn : n.toNat = k := by omega
      go_wp2
      go_ret
      exact ⟨rfl, rfl⟩

theorem tmod_bd (x m : Int) (hm : 1 ≤ m) : -m < x.tmod m ∧ x.tmod m < m := by
  constructor
  · by_cases h : 0 ≤ x
    · have := Int.tmod_nonneg m h; omega
    · have h1 := Int.neg_tmod x m
      have h2 := Int.tmod_lt_of_pos (-x) (show 0 < m by omega)
      omega
  · exact Int.tmod_lt_of_pos x (by omega)
theorem emod_of_tmod_neg (x m : Int) (hm : 1 ≤ m) (h : x.tmod m < 0) : x.tmod m + m = x % m := by
  have e := Int.tmod_add_mul_tdiv x m
  have hb := tmod_bd x m hm
  rw [← Int.emod_eq_of_lt (a := x.tmod m + m) (b := m) (by omega) (by omega)]
  conv => rhs; rw [← e]
  rw [Int.add_mul_emod_self_left, Int.add_emod_right]
theorem emod_of_tmod_nonneg (x m : Int) (hm : 1 ≤ m) (h : 0 ≤ x.tmod m) : x.tmod m = x % m := by
  have e := Int.tmod_add_mul_tdiv x m
  have hb := tmod_bd x m hm
  rw [← Int.emod_eq_of_lt (a := x.tmod m) (b := m) (by omega) (by omega)]
  conv => rhs; rw [← e]
  rw [Int.add_mul_emod_self_left]

theorem ret_int {k : IntKind} {a b : Int} (h : a = b) : Ending.returned (.int k a) = .returned (.int k b) := by rw [h]

set_option maxHeartbeats 400000 in
theorem floorMod_any (x m : Int) (hm : 1 ≤ m) (hm2 : m ≤ 1000000) (w : World) :
    Calls Try.prog 9 #[.int .i64 x, .int .i64 m] w fun e w' => e = .returned (.int .i64 (x % m)) ∧ w' = w := by
  have hb := tmod_bd x m hm
  by_cases h0 : 0 ≤ x
  · have hb := Int.emod_nonneg x (show m ≠ 0 by omega)
    go_enter Try.func9, Try.ntmps9
    go_wp2
    go_ret
    exact ⟨rfl, rfl⟩
  · by_cases h : x.tmod m < 0
    · have HE : Hid (x.tmod m + m = x % m) := emod_of_tmod_neg x m hm h
      go_enter Try.func9, Try.ntmps9
      go_wp2
      go_ret
      exact ⟨ret_int HE.out, rfl⟩
    · have HE : Hid (x.tmod m = x % m) := emod_of_tmod_nonneg x m hm (by omega)
      go_enter Try.func9, Try.ntmps9
      go_wp2
      go_ret
      exact ⟨ret_int HE.out, rfl⟩

/-- the rounded clock -/
def rnd (i u : Int) : Int := if u ≤ 2 * (i % u) then i - (i % u - u) else i - i % u
theorem rnd_up (i u : Int) (h : u ≤ 2 * (i % u)) : rnd i u = i - (i % u - u) := if_pos h
theorem rnd_dn (i u : Int) (h : ¬ u ≤ 2 * (i % u)) : rnd i u = i - i % u := if_neg h

abbrev V (p i : Int) : Value := .agg #[.int .u8 5, .int .u8 (p % 256), .int .i32 0, .int .i64 i, .string { data := #[] }]

set_option maxHeartbeats 400000 in
theorem zz_any (p i : Int) (w : World) :
    Calls Try.prog 7 #[V p i] w fun e w' => e = .returned (.int .i64 i) ∧ ∃ c : Array Value, w' = w.alloc (.cells c 26) := by
  go_enter Try.func7, Try.ntmps7
  go_wp2
  go_ret
  exact ⟨rfl, _, rfl⟩

theorem round_any (p0 i p u r : Int) (hp : 0 ≤ p) (hp2 : p ≤ 9223372036854775807) (hi1 : -9223372036853775808 ≤ i) (hi2 : i ≤ 9223372036853775807) (Hgen : Hid (pw (6 - p).toNat = u)) (HR : Hid (rnd i u = r)) (w : World) :
    Calls Try.prog 6 #[V p0 i, .int .i64 p] w fun e w' => e = .returned (V p r) ∧ ∃ c1 c2 c3 : Array Value, w' = ((w.alloc (.cells c1 26)).alloc (.cells c2 26)).alloc (.cells c3 26) := by
  have hu := pw_le (6 - p).toNat (by omega)
  rw [Hgen.out] at hu
  have hr1 : 0 ≤ i % u := Int.emod_nonneg i (by omega)
  have hr2 : i % u < u := Int.emod_lt_of_pos i (by omega)
  by_cases hc : u ≤ 2 * (i % u)
  · have HR2 : Hid (i - (i % u - u) = r) := (rnd_up i u hc).symm.trans HR.out
    clear HR
    go_enter Try.func6, Try.ntmps6
    go_wp2_with (first | (go_at_call 8; refine (pow10_any _ (by omega) (by omega) _).mono ?_; rintro e w' ⟨rfl, rfl⟩; rw [Hgen.out]) | (go_at_call 9; refine (floorMod_any _ _ (by omega) (by omega) _).mono ?_; rintro e w' ⟨rfl, rfl⟩) | (go_at_call 5; refine (dta_any _ _ _).mono ?_; rintro e w' ⟨rfl, c, rfl⟩))
    refine bodyPost_ret (v := V p (i - (i % u - u))) (by simp [results, Try.results6, go_sem]) rfl ⟨by rw [HR2.out], _, _, _, rfl⟩
  · have HR2 : Hid (i - i % u = r) := (rnd_dn i u hc).symm.trans HR.out
    clear HR
    go_enter Try.func6, Try.ntmps6
    go_wp2_with (first | (go_at_call 8; refine (pow10_any _ (by omega) (by omega) _).mono ?_; rintro e w' ⟨rfl, rfl⟩; rw [Hgen.out]) | (go_at_call 9; refine (floorMod_any _ _ (by omega) (by omega) _).mono ?_; rintro e w' ⟨rfl, rfl⟩) | (go_at_call 5; refine (dta_any _ _ _).mono ?_; rintro e w' ⟨rfl, c, rfl⟩))
    refine bodyPost_ret (v := V p (i - i % u)) (by simp [results, Try.results6, go_sem]) rfl ⟨by rw [HR2.out], _, _, _, rfl⟩

/-! ### THE PLAIN LAWS -/
theorem rnd_dvd (i u : Int) : u ∣ rnd i u := by
  have h : u ∣ i - i % u := Int.dvd_self_sub_emod
  unfold rnd
  split
  · have : i - (i % u - u) = (i - i % u) + u := by omega
    rw [this]; exact Int.dvd_add h (Int.dvd_refl u)
  · exact h
theorem rnd_tmod (i u : Int) : (rnd i u).tmod u = 0 := by
  obtain ⟨c, hc⟩ := rnd_dvd i u
  rw [hc]; exact Int.mul_tmod_right u c
theorem rnd_near (i u : Int) (hu : 1 ≤ u) : -u < 2 * (rnd i u - i) ∧ 2 * (rnd i u - i) ≤ u := by
  have h1 := Int.emod_nonneg i (show u ≠ 0 by omega)
  have h2 := Int.emod_lt_of_pos i (show 0 < u by omega)
  unfold rnd; split <;> omega
theorem rnd_shift (i k u : Int) : rnd (i + k * u) u = rnd i u + k * u := by
  unfold rnd
  rw [Int.add_mul_emod_self_right]
  split <;> omega
theorem mul_bd (k u : Int) (h1 : -65536 ≤ k) (h2 : k ≤ 65536) (h3 : 1 ≤ u) (h4 : u ≤ 1000000) : -65536000000 ≤ k * u ∧ k * u ≤ 65536000000 := by
  have a := Int.mul_le_mul_of_nonneg_right h2 (show 0 ≤ u by omega)
  have b := Int.mul_le_mul_of_nonneg_right h1 (show 0 ≤ u by omega)
  omega
end Go.Proofs.Qxb6630016a
