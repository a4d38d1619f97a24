import Derived.Test.Qxb6630159aFmtBits
namespace Go.Proofs.Qxb6630159aFmt
open Go.RowKit

theorem Row.byte {w : World} {a : Option Addr} {len : Nat} {bs : List Nat} (h : Row w a len bs) (j : Nat) : bs.getD j 0 < 256 := by
  obtain ⟨_, _, h3, _⟩ := h
  by_cases hj : j < bs.length
  · rw [show bs.getD j 0 = bs[j] by simp [List.getD, hj]]
    exact h3 _ (List.getElem_mem hj)
  · simp [List.getD, hj]
theorem Row.later {w w' : World} {a : Option Addr} {len : Nat} {bs : List Nat} (h : Row w a len bs) (hb : Below w.heap.size w w') : Row w' a len bs := by
  obtain ⟨h1, h2, h3, h4⟩ := h
  refine ⟨h1, h2, h3, fun hl => ?_⟩
  obtain ⟨b, o, e, hc⟩ := h4 hl
  refine ⟨b, o, e, fun j hj => ?_⟩
  have hlt : b < w.heap.size := World.block_lt_of_cell? _ _ (hc j hj)
  exact (hb.cell (by exact hlt)).trans (hc j hj)

theorem slow_zero (a : Option Addr) (len cap off : Nat) (w : World) :
    Calls Tryf.prog 23 #[.slice a len cap, .int .i64 off, .int .i64 0] w fun e w' => e = .returned (.tuple #[.int .u64 0, .int .i64 (off : Int)]) ∧ w = w' := by
  go_enter Tryf.func23, Tryf.ntmps23
  go_wp2
  refine wp_loop_rounds 1 ?_
  rw [rounds_succ]
  go_wp2
  go_ret2
  exact ⟨rfl, rfl⟩

set_option maxHeartbeats 400000 in
theorem read_any (a : Option Addr) (len cap : Nat) (bs : List Nat) (off W : Nat) (w : World) (hr : Row w a len bs) (hoff : off + W ≤ len * 8) (hW : W ≤ 32) (hl : len ≤ 2000000) :
    Calls Tryf.prog 19 #[.slice a len cap, .int .i64 off, .int .i64 W] w fun e w' => e = .returned (.tuple #[.int .u64 (fld bs off W : Nat), .int .i64 ((off + W : Nat) : Int)]) ∧ ∃ n, w' = w.drewN n := by
  by_cases h0 : W = 0
  · subst h0
    clear hr hoff hW
    by_cases h1 : (off : Int) % 8 = 0
    · go_enter Tryf.func19, Tryf.ntmps19
      go_wp2_with (go_at_call 23; refine (slow_zero a len cap off _).mono ?_; rintro e w' ⟨rfl, hw⟩; subst hw)
      go_ret2
      exact ⟨rfl, 0, rfl⟩
    · go_enter Tryf.func19, Tryf.ntmps19
      go_wp2_with (go_at_call 23; refine (slow_zero a len cap off _).mono ?_; rintro e w' ⟨rfl, hw⟩; subst hw)
      go_ret2
      exact ⟨rfl, 0, rfl⟩
  · have hb := hr.byte
    obtain ⟨_, _, _, h4⟩ := hr
    obtain ⟨b, o, rfl, hc⟩ := h4 (by omega)
    by_cases h8 : off % 8 = 0 ∧ W = 8
    · obtain ⟨h1, rfl⟩ := h8
      obtain ⟨y, hy⟩ : ∃ y, y = bs.getD (off / 8) 0 := ⟨_, rfl⟩
      have g1 : w.cell? ⟨b, o + off / 8, none⟩ = some (.int .u8 (y : Int)) := by rw [hy]; exact hc _ (by omega)
      have hyl : y < 256 := by rw [hy]; exact hb _
      have HF : Hid (fld bs off 8 = y) := by
        show _ = _
        rw [fld_in bs off 8 (by omega), ← hy, h1]
        simp; omega
      have h1' : (off : Int) % 8 = 0 := by omega
      have hxl : (off : Int) / 8 < len := by omega
      clear hc hb hy
      go_enter Tryf.func19, Tryf.ntmps19
      go_wp2
      go_ret2
      exact ⟨by rw [HF.out]; rfl, 0, rfl⟩
    · have HC : Hid _ := hc
      have HB : Hid _ := hb
      clear hc hb
      by_cases h1 : off % 8 = 0
      · have h1' : (off : Int) % 8 = 0 := by omega
        have h2 : W ≠ 8 := fun e => h8 ⟨h1, e⟩
        clear h8
        go_enter Tryf.func19, Tryf.ntmps19
        go_wp2_with (go_at_call 23; refine (slow_any b o len cap bs off W _ HC.out HB.out hoff hW hl).mono ?_; rintro e w' ⟨rfl, n, rfl⟩)
        go_ret2
        exact ⟨rfl, n, rfl⟩
      · have h1' : ¬ (off : Int) % 8 = 0 := by omega
        clear h8
        go_enter Tryf.func19, Tryf.ntmps19
        go_wp2_with (go_at_call 23; refine (slow_any b o len cap bs off W _ HC.out HB.out hoff hW hl).mono ?_; rintro e w' ⟨rfl, n, rfl⟩)
        go_ret2
        exact ⟨rfl, n, rfl⟩

/-! ### remainders -/
theorem tmod_bd (x m : Int) (hm : 1 ≤ m) : -m < x.tmod m ∧ x.tmod m < m := by
  constructor
  · by_cases h : 0 ≤ x
    · have := Int.tmod_nonneg m h; omega
    · have h1 := Int.neg_tmod x m
      have h2 := Int.tmod_lt_of_pos (-x) (show 0 < m by omega)
      omega
  · exact Int.tmod_lt_of_pos x (by omega)
theorem emod_of_tmod_neg (x m : Int) (hm : 1 ≤ m) (h : x.tmod m < 0) : x.tmod m + m = x % m := by
  have e := Int.tmod_add_mul_tdiv x m
  have hb := tmod_bd x m hm
  rw [← Int.emod_eq_of_lt (a := x.tmod m + m) (b := m) (by omega) (by omega)]
  conv => rhs; rw [← e]
  rw [Int.add_mul_emod_self_left, Int.add_emod_right]
theorem emod_of_tmod_nonneg (x m : Int) (hm : 1 ≤ m) (h : 0 ≤ x.tmod m) : x.tmod m = x % m := by
  have e := Int.tmod_add_mul_tdiv x m
  have hb := tmod_bd x m hm
  rw [← Int.emod_eq_of_lt (a := x.tmod m) (b := m) (by omega) (by omega)]
  conv => rhs; rw [← e]
  rw [Int.add_mul_emod_self_left]
theorem ret_int {k : IntKind} {a b : Int} (h : a = b) : Ending.returned (.int k a) = .returned (.int k b) := by rw [h]

set_option maxHeartbeats 400000 in
theorem mod_any (x m : Int) (hm : 1 ≤ m) (hm2 : m ≤ 4000000000) (w : World) :
    Calls Tryf.prog 24 #[.int .i64 x, .int .i64 m] w fun e w' => e = .returned (.int .i64 (x % m)) ∧ w = w' := by
  have hb := tmod_bd x m hm
  by_cases h0 : 0 ≤ x
  · have hb := Int.emod_nonneg x (show m ≠ 0 by omega)
    go_enter Tryf.func24, Tryf.ntmps24
    go_wp2
    go_ret
    exact ⟨rfl, rfl⟩
  · by_cases h : x.tmod m < 0
    · have HE : Hid (x.tmod m + m = x % m) := emod_of_tmod_neg x m hm h
      go_enter Tryf.func24, Tryf.ntmps24
      go_wp2
      go_ret
      exact ⟨ret_int HE.out, rfl⟩
    · have HE : Hid (x.tmod m = x % m) := emod_of_tmod_nonneg x m hm (by omega)
      go_enter Tryf.func24, Tryf.ntmps24
      go_wp2
      go_ret
      exact ⟨ret_int HE.out, rfl⟩
set_option maxHeartbeats 400000 in
theorem zzMod_any (x m : Int) (hm : 1 ≤ m) (hm2 : m ≤ 4000000000) (w : World) :
    Calls Tryf.prog 22 #[.int .i64 x, .int .i64 m] w fun e w' => e = .returned (.int .i64 (x % m)) ∧ w = w' := by
  have hb := tmod_bd x m hm
  by_cases h0 : 0 ≤ x
  · have hb := Int.emod_nonneg x (show m ≠ 0 by omega)
    go_enter Tryf.func22, Tryf.ntmps22
    go_wp2
    go_ret
    exact ⟨rfl, rfl⟩
  · by_cases h : x.tmod m < 0
    · have HE : Hid (x.tmod m + m = x % m) := emod_of_tmod_neg x m hm h
      go_enter Tryf.func22, Tryf.ntmps22
      go_wp2
      go_ret
      exact ⟨ret_int HE.out, rfl⟩
    · have HE : Hid (x.tmod m = x % m) := emod_of_tmod_nonneg x m hm (by omega)
      go_enter Tryf.func22, Tryf.ntmps22
      go_wp2
      go_ret
      exact ⟨ret_int HE.out, rfl⟩

/-- the reading that is rebuilt: rt - back + d, d the offset -/
def reb (c rt bound back : Int) : Int := rt + ((c - rt % bound + back) % bound - back)
set_option maxHeartbeats 400000 in
theorem rebuild_any (c rt eps delta bound back : Int) (he : 0 ≤ eps) (he2 : eps ≤ 268435456) (hd : 0 ≤ delta) (hd2 : delta ≤ 268435456) (hB : bound = 6 * eps + delta + 1) (hK : back = 2 * eps + delta)
    (hc : 0 ≤ c) (hc2 : c < bound) (hr1 : -9223372036854775808 + back ≤ rt) (hr2 : rt ≤ 9223372036854775807 - (bound - 1 - back)) (w : World) :
    Calls Tryf.prog 21 #[.int .i64 c, .int .i64 rt, .int .i64 eps, .int .i64 delta] w fun e w' => e = .returned (.int .i64 (reb c rt bound back)) ∧ w = w' := by
  have HB : Hid (6 * eps + delta + 1 = bound) := hB.symm
  have HK : Hid (2 * eps + delta = back) := hK.symm
  have b1 : 1 ≤ bound := by omega
  have b2 : bound ≤ 4000000000 := by omega
  have b3 : 0 ≤ back := by omega
  have b4 : back ≤ 4000000000 := by omega
  have m1 := Int.emod_nonneg rt (show bound ≠ 0 by omega)
  have m2 := Int.emod_lt_of_pos rt (show 0 < bound by omega)
  have m3 := Int.emod_nonneg (c - rt % bound + back) (show bound ≠ 0 by omega)
  have m4 := Int.emod_lt_of_pos (c - rt % bound + back) (show 0 < bound by omega)
  have e1 := HB.out
  have e2 := HK.out
  clear hB hK
  go_enter Tryf.func21, Tryf.ntmps21
  go_wp2_with (go_at_call 24; refine (mod_any _ _ (by omega) (by omega) _).mono ?_; rintro e w' ⟨rfl, hw⟩; subst hw)
  go_ret
  exact ⟨rfl, rfl⟩
end Go.Proofs.Qxb6630159aFmt
