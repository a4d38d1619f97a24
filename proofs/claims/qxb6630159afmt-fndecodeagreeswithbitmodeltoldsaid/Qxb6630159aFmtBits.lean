import Derived.Test.Qxb6630159aFmtRow
import Derived.Test.Qxb6630159aFmtPlain
import Derived.Deep.QuietTactic
import Derived.BigQuiet
import Derived.Laws.BitsAllLaws
namespace Go.Proofs.Qxb6630159aFmt
open Go.RowKit

theorem pow_le8 (q : Nat) (h : q ≤ 8) : 1 ≤ 2 ^ q ∧ 2 ^ q ≤ 256 := by
  have h1 : 2 ^ q ≤ 2 ^ 8 := Nat.pow_le_pow_right (by omega) h
  have h2 : 0 < 2 ^ q := Nat.two_pow_pos q
  omega
theorem or_val (v c q : Nat) (hv : v < 4294967296) (hq : q ≤ 8) (hc : c < 2 ^ q) : bits .or .u64 ((v * 2 ^ q : Nat) : Int) (c : Int) = ((v * 2 ^ q + c : Nat) : Int) := by
  have hp := pow_le8 q hq
  have hm : v * 2 ^ q ≤ 4294967296 * 256 := Nat.mul_le_mul (by omega) hp.2
  rw [u64_or_nat _ _ (by omega) (by omega), ← Nat.shiftLeft_eq, ← Nat.shiftLeft_add_eq_or_of_lt hc]
theorem or_byte (v y : Nat) (hv : v < 4294967296) (hy : y < 256) : bits .or .u64 ((v : Int) * 256) (y : Int) = ((v * 2 ^ 8 + y : Nat) : Int) := by
  have := or_val v y 8 hv (by omega) (by omega)
  rw [← this]; congr 1
theorem and_val (z q : Nat) (hz : z < 256) (hq : q ≤ 8) : bits .and .u64 (z : Int) ((2 ^ q - 1 : Nat) : Int) = ((z % 2 ^ q : Nat) : Int) := by
  have hp := pow_le8 q hq
  rw [u64_and_nat _ _ (by omega) (by omega), Nat.and_two_pow_sub_one_eq_mod]
theorem wrap_nat (z : Nat) (h : z < 18446744073709551616) : IntKind.u64.wrap (z : Int) = (z : Int) := IntWalk.u64_in _ (by omega)
theorem wrap_pow (q : Nat) (hq : q ≤ 8) : IntKind.u64.wrap (IntKind.u64.wrap (2 ^ q) - 1) = ((2 ^ q - 1 : Nat) : Int) := by
  have hp := pow_le8 q hq
  have e0 : ((2 : Int) ^ q) = ((2 ^ q : Nat) : Int) := by simp
  rw [e0]
  generalize 2 ^ q = p at hp
  rw [wrap_nat p (by omega), show ((p : Int) - 1) = ((p - 1 : Nat) : Int) by omega, wrap_nat _ (by omega)]
theorem wrap_mul (v q : Nat) (hv : v < 4294967296) (hq : q ≤ 8) : IntKind.u64.wrap ((v : Int) * 2 ^ q) = ((v * 2 ^ q : Nat) : Int) := by
  have hp := pow_le8 q hq
  have hm : v * 2 ^ q ≤ 4294967296 * 256 := Nat.mul_le_mul (by omega) hp.2
  have e0 : ((2 : Int) ^ q) = ((2 ^ q : Nat) : Int) := by simp
  rw [e0, ← Int.natCast_mul, wrap_nat _ (by omega)]
theorem wrap_div (y s : Nat) (hy : y < 256) : IntKind.u64.wrap ((y : Int) / 2 ^ s) = ((y / 2 ^ s : Nat) : Int) := by
  have es : ((2 : Int) ^ s) = ((2 ^ s : Nat) : Int) := by simp
  have hys : y / 2 ^ s < 256 := Nat.lt_of_le_of_lt (Nat.div_le_self _ _) hy
  rw [es, ← Int.natCast_ediv]
  exact wrap_nat _ (by omega)
theorem chunk_val (v y s q : Nat) (hv : v < 4294967296) (hy : y < 256) (hq : q ≤ 8) :
    bits .or .u64 (IntKind.u64.wrap ((v : Int) * 2 ^ q)) (bits .and .u64 (IntKind.u64.wrap ((y : Int) / 2 ^ s)) (IntKind.u64.wrap (IntKind.u64.wrap (2 ^ q) - 1))) = ((v * 2 ^ q + y / 2 ^ s % 2 ^ q : Nat) : Int) := by
  have hp := pow_le8 q hq
  have hys : y / 2 ^ s < 256 := Nat.lt_of_le_of_lt (Nat.div_le_self _ _) hy
  rw [wrap_mul v q hv hq, wrap_div y s hy, wrap_pow q hq, and_val _ q hys hq, or_val _ _ q hv hq (Nat.mod_lt _ (by omega))]
theorem chunk_val0 (v y q : Nat) (hv : v < 4294967296) (hy : y < 256) (hq : q ≤ 8) :
    bits .or .u64 (IntKind.u64.wrap ((v : Int) * 2 ^ q)) (bits .and .u64 (y : Int) (IntKind.u64.wrap (IntKind.u64.wrap (2 ^ q) - 1))) = ((v * 2 ^ q + y / 2 ^ 0 % 2 ^ q : Nat) : Int) := by
  have hp := pow_le8 q hq
  rw [wrap_mul v q hv hq, wrap_pow q hq, and_val _ q hy hq, or_val _ _ q hv hq (Nat.mod_lt _ (by omega)), Nat.pow_zero, Nat.div_one]

set_option maxHeartbeats 1000000 in
theorem slow_any (b o len cap : Nat) (bs : List Nat) (off W : Nat) (w : World) (hc : ∀ j, j < len → w.cell? ⟨b, o + j, none⟩ = some (.int .u8 ((bs.getD j 0 : Nat) : Int))) (hb : ∀ j, bs.getD j 0 < 256)
    (hoff : off + W ≤ len * 8) (hW : W ≤ 32) (hl : len ≤ 2000000) :
    Calls Tryf.prog 23 #[.slice (some ⟨b, o, none⟩) len cap, .int .i64 off, .int .i64 W] w fun e w' => e = .returned (.tuple #[.int .u64 (fld bs off W : Nat), .int .i64 ((off + W : Nat) : Int)]) ∧ ∃ n, w' = w.drewN n := by
  have HC : Hid (∀ j, j < len → w.cell? ⟨b, o + j, none⟩ = some (.int .u8 ((bs.getD j 0 : Nat) : Int))) := hc
  have HB : Hid (∀ j, bs.getD j 0 < 256) := hb
  clear hc hb
  go_enter Tryf.func23, Tryf.ntmps23
  go_wp2
  go_loopw [1, 2, 8] (fun x y v wr => ∃ k q n : Nat, k + q = W ∧ x = .int .i64 ((off + k : Nat) : Int) ∧ y = .int .i64 (q : Int) ∧ v = .int .u64 ((fld bs off k : Nat) : Int) ∧ wr = w.drewN n) (fun _ y _ _ => (intOf y).toNat)
  case atStart => exact ⟨0, W, 0, by omega, by go_num, rfl, rfl, rfl⟩
  case round =>
    obtain ⟨k, q, n, hk, rfl, rfl, rfl, hw⟩ := hrel
    have HW : Hid (wr = w.drewN n) := hw
    clear hw
    obtain ⟨x, hx⟩ : ∃ x, x = off + k := ⟨_, rfl⟩
    obtain ⟨v, hv⟩ : ∃ v, v = fld bs off k := ⟨_, rfl⟩
    have hvl : v < 4294967296 := by
      have h1 := fld_lt bs off k
      have h2 : 2 ^ k ≤ 2 ^ 32 := Nat.pow_le_pow_right (by omega) (by omega)
      rw [hv]; omega
    rw [← hx, ← hv]
    have HK : Hid (k + q = W) := hk
    by_cases hq : 0 < q
    · obtain ⟨y, hy⟩ : ∃ y, y = bs.getD (x / 8) 0 := ⟨_, rfl⟩
      have hx8 : x / 8 < len := by omega
      have g1 : wr.cell? ⟨b, o + x / 8, none⟩ = some (.int .u8 (y : Int)) := by rw [HW.out, hy]; exact HC.out (x / 8) hx8
      have hyl : y < 256 := by rw [hy]; exact HB.out _
      have HX : Hid (x = off + k) := hx
      have hxl : (x : Int) / 8 < len := by omega
      have hxb : x ≤ 16000000 := by omega
      have HV : Hid (v = fld bs off k) := hv
      have HY : Hid (y = bs.getD (x / 8) 0) := hy
      obtain ⟨u, hu⟩ : ∃ u, x % 8 = u := ⟨_, rfl⟩
      have HU : Hid (x % 8 = u) := hu
      have hu' : (x : Int) % 8 = u := by omega
      have hu7 : u ≤ 7 := by omega
      have hq32 : q ≤ 32 := by omega
      have HF : Hid (∀ c, u + c ≤ 8 → fld bs off (k + c) = v * 2 ^ c + y / 2 ^ (8 - u - c) % 2 ^ c) := by
        intro c hc
        rw [fld_chunk bs off k c (by rw [← hx, hu]; exact hc), ← hx, hu, ← hy, ← hv]
      clear hx hv hy hoff hu hk hx8 HC HB
      by_cases hc : u = 0 ∧ 8 ≤ q
      · obtain ⟨c1, c2⟩ := hc
        subst c1
        have HE := HF.out 8 (by omega)
        have HO : Hid (bits .or .u64 ((v : Int) * 256) (y : Int) = ((fld bs off (k + 8) : Nat) : Int)) := by
          show _ = _
          rw [HE, or_byte v y hvl hyl]
          congr 2
          simp; omega
        clear HE HF
        go_wp2
        go_roundw
        case rel => exact ⟨k + 8, q - 8, n, by have := HK.out; omega, by rw [HX.out]; go_num, by go_num, by rw [HO.out], HW.out⟩
        case measure => simp [intOf]; omega
      · have hn : ¬ (u = 0 ∧ 8 ≤ q) := hc
        clear hc
        by_cases hm : q ≤ 8 - u
        · by_cases c1 : u = 0
          · subst c1
            have c2 : q < 8 := by omega
            have HO : Hid (bits .or .u64 (IntKind.u64.wrap ((v : Int) * 2 ^ q)) (bits .and .u64 (IntKind.u64.wrap ((y : Int) / 2 ^ (8 - q))) (IntKind.u64.wrap (IntKind.u64.wrap (2 ^ q) - 1))) = ((fld bs off (k + q) : Nat) : Int)) := by
              show _ = _
              rw [HF.out q (by omega)]
              exact chunk_val v y (8 - q) q hvl hyl (by omega)
            clear HF hn
            go_wp2_with fail
            go_quiet (fail)
            go_wp2
            go_roundw
            case rel => exact ⟨k + q, 0, n + nq, by have := HK.out; omega, by rw [HX.out]; go_num, by go_num, by rw [HO.out], by rw [HW.out]; simp⟩
            case measure => simp [intOf]; omega
          · have HO : Hid (bits .or .u64 (IntKind.u64.wrap ((v : Int) * 2 ^ q)) (bits .and .u64 (IntKind.u64.wrap ((y : Int) / 2 ^ (8 - u - q))) (IntKind.u64.wrap (IntKind.u64.wrap (2 ^ q) - 1))) = ((fld bs off (k + q) : Nat) : Int)) := by
              show _ = _
              rw [HF.out q (by omega)]
              exact chunk_val v y (8 - u - q) q hvl hyl (by omega)
            clear hn HF
            go_wp2_with fail
            go_quiet (fail)
            go_wp2
            go_roundw
            case rel => exact ⟨k + q, 0, n + nq, by have := HK.out; omega, by rw [HX.out]; go_num, by go_num, by rw [HO.out], by rw [HW.out]; simp⟩
            case measure => simp [intOf]; omega
        · have c1 : u ≠ 0 := by omega
          have HO : Hid (bits .or .u64 (IntKind.u64.wrap ((v : Int) * 2 ^ (8 - u))) (bits .and .u64 (y : Int) (IntKind.u64.wrap (IntKind.u64.wrap (2 ^ (8 - u)) - 1))) = ((fld bs off (k + (8 - u)) : Nat) : Int)) := by
            show _ = _
            rw [HF.out (8 - u) (by omega), show 8 - u - (8 - u) = 0 by omega]
            exact chunk_val0 v y (8 - u) hvl hyl (by omega)
          clear hn HF
          go_wp2_with fail
          go_quiet (fail)
          go_wp2
          go_roundw
          case rel => exact ⟨k + (8 - u), q - (8 - u), n + nq, by have := HK.out; omega, by rw [HX.out]; go_num, by go_num, by rw [HO.out], by rw [HW.out]; simp⟩
          case measure => simp [intOf]; omega
    · have hq0 : q = 0 := by omega
      subst hq0
      clear HC HB
      go_wp2
      go_ret2
      exact ⟨by rw [hx, hv, show k = W by have := HK.out; omega]; rfl, n, HW.out⟩
end Go.Proofs.Qxb6630159aFmt
