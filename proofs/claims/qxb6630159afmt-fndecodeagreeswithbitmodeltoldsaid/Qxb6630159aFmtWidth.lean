import Derived.Test.Qxb6630159aFmtDec
import Derived.Lib.LazyBuf
namespace Go.Proofs.Qxb6630159aFmt
open Go.RowKit
set_option linter.unusedVariables false

/-- some width of at most 32 bits comes back -/
def IsW (e : Ending) : Prop := ∃ W : Nat, W ≤ 32 ∧ e = .returned (.int .i64 (W : Int))

set_option maxHeartbeats 400000 in
theorem bitLen_any (x : Nat) (hx : x < 4294967296) (w : World) :
    Calls Tryf.prog 13 #[.int .i64 (x : Int)] w fun e w' => IsW e ∧ w = w' := by
  go_enter Tryf.func13, Tryf.ntmps13
  go_wp2
  go_loop [0, 3] (fun y m => ∃ a b : Nat, b ≤ 32 ∧ a < 2 ^ (32 - b) ∧ y = .int .i64 (a : Int) ∧ m = .int .i64 (b : Int)) (fun y _ => (intOf y).toNat)
  case atStart => exact ⟨x, 0, by omega, by simpa using hx, rfl, rfl⟩
  case round =>
    obtain ⟨a, b, hb, ha, rfl, rfl⟩ := hrel
    have HA : Hid (a < 2 ^ (32 - b)) := ha
    have hal : a < 4294967296 := by
      have h2 : 2 ^ (32 - b) ≤ 2 ^ 32 := Nat.pow_le_pow_right (by omega) (by omega)
      omega
    clear ha
    by_cases h0 : 0 < a
    · have hb31 : b < 32 := by
        by_cases e : b = 32
        · have := HA.out; rw [e] at this; simp at this; omega
        · omega
      have HN : Hid (a / 2 < 2 ^ (32 - (b + 1))) := by
        have := HA.out
        rw [show 32 - b = (32 - (b + 1)) + 1 by omega, Nat.pow_succ] at this
        show _ < _
        omega
      go_wp2
      go_round
      case rel => exact ⟨a / 2, b + 1, by omega, HN.out, by go_num, by go_num⟩
      case measure => simp [intOf]; omega
    · go_wp2
      go_ret
      exact ⟨⟨b, hb, rfl⟩, rfl⟩

set_option maxHeartbeats 400000 in
theorem width_any (bound : Nat) (packed : Bool) (h1 : 1 ≤ bound) (h2 : bound ≤ 4000000000) (w : World) :
    Calls Tryf.prog 6 #[.int .i64 (bound : Int), .bool packed] w fun e w' => IsW e ∧ w = w' := by
  have hb : ((bound : Int) - 1) = ((bound - 1 : Nat) : Int) := by omega
  cases packed
  · go_enter Tryf.func6, Tryf.ntmps6
    go_wp2_with fail
    refine (bitLen_any (bound - 1) (by omega) _).mono ?_
    rintro e w' ⟨⟨W, hW, rfl⟩, hw⟩
    subst hw
    go_wp2
    go_ret
    exact ⟨⟨(W + 7) / 8 * 8, by omega, by go_num⟩, rfl⟩
  · go_enter Tryf.func6, Tryf.ntmps6
    go_wp2_with fail
    refine (bitLen_any (bound - 1) (by omega) _).mono ?_
    rintro e w' ⟨⟨W, hW, rfl⟩, hw⟩
    subst hw
    go_wp2
    go_ret
    exact ⟨⟨W, hW, rfl⟩, rfl⟩

theorem new_any (e d n W : Int) (w : World) :
    Calls Tryf.prog 8 #[.int .i64 e, .int .i64 d, .int .i64 n, .int .i64 W] w fun x w' => x = .returned (.pointer (some ⟨w.heap.size, 0, none⟩)) ∧ w' = w.alloc (.cells #[.int .i64 e, .int .i64 d, .int .i64 n, .int .i64 W] 45) := by
  go_enter Tryf.func8, Tryf.ntmps8
  go_wp2
  go_ret
  exact ⟨rfl, rfl⟩

set_option maxHeartbeats 400000 in
theorem parts_any (p e d r : Int) (a : Option Addr) (l c : Nat) (s x : Bool) (w : World) :
    Calls Tryf.prog 10 #[.agg #[.int .i64 p, .int .i64 e, .int .i64 d, .int .i64 r, .slice a l c, .bool s, .bool x]] w fun y w' => y = .returned (.tuple #[.int .i64 p, .int .i64 e, .int .i64 d, .int .i64 r, .slice a l c, .bool s, .bool x]) ∧ Below w.heap.size w w' := by
  go_enter Tryf.func10, Tryf.ntmps10
  go_wp2
  go_quiet (fail)
  go_wp2
  refine bodyPost_ret (v := .tuple #[.int .i64 p, .int .i64 e, .int .i64 d, .int .i64 r, .slice a l c, .bool s, .bool x]) (by simp [results, Tryf.results10, go_sem]) rfl ⟨rfl, ?_⟩
  exact ((Below.refl _ w).alloc (Nat.le_refl _) _).trans ⟨rfl, rfl, rfl, Nat.le_refl _, fun _ _ => rfl⟩

set_option maxHeartbeats 400000 in
theorem rebuilt_true (r c lo bound : Int) (hb1 : 1 ≤ bound) (hb2 : bound ≤ 4000000000) (hl1 : -9223372036854775808 ≤ lo) (hr : r ≤ 9223372036854775807) (h1 : lo ≤ r) (h2 : r - lo ≤ bound - 1) (h3 : (lo % bound + (r - lo)) % bound = c) (hc1 : 0 ≤ c) (hc2 : c < bound) (w : World) :
    Calls Tryf.prog 11 #[.int .i64 r, .int .i64 c, .int .i64 lo, .int .i64 bound] w fun e w' => e = .returned (.bool true) ∧ w = w' := by
  have m1 := Int.emod_nonneg lo (show bound ≠ 0 by omega)
  have m2 := Int.emod_lt_of_pos lo (show 0 < bound by omega)
  obtain ⟨d, hd⟩ : ∃ d, d = r - lo := ⟨_, rfl⟩
  have hw : IntKind.u64.wrap (IntKind.u64.wrap r - IntKind.u64.wrap lo) = d := by
    rw [IntKind.wrap_u64, IntKind.wrap_u64, IntKind.wrap_u64]; omega
  rw [← hd] at h2 h3
  have hd0 : 0 ≤ d := by omega
  have hc3 : (lo % bound + d) % bound = c := h3
  clear hd h3
  go_enter Tryf.func11, Tryf.ntmps11
  go_wp2_with (go_at_call 22; refine (zzMod_any _ _ (by omega) (by omega) _).mono ?_; rintro e w' ⟨rfl, hw⟩; subst hw)
  go_ret
  exact ⟨rfl, rfl⟩

/-! ### the plain law of the rebuilt reading -/
theorem reb_eq (c rt bound back : Int) : reb c rt bound back = (rt - back) + (c - rt % bound + back) % bound := by unfold reb; omega
theorem reb_law (c rt bound back : Int) (hb : 1 ≤ bound) (hc1 : 0 ≤ c) (hc2 : c < bound) : ((rt - back) % bound + (reb c rt bound back - (rt - back))) % bound = c := by
  have e : reb c rt bound back - (rt - back) = (c - rt % bound + back) % bound := by rw [reb_eq]; omega
  rw [e, Int.add_emod_emod, Int.emod_add_emod]
  have q := Int.emod_add_mul_ediv rt bound
  have e2 : rt - back + (c - rt % bound + back) = c + bound * (rt / bound) := by omega
  rw [e2, Int.add_mul_emod_self_left, Int.emod_eq_of_lt hc1 hc2]
theorem reb_shift (c rt bound back : Int) : reb c (rt + bound) bound back = reb c rt bound back + bound := by
  unfold reb; rw [Int.add_emod_right]; omega
theorem reb_bd (c rt bound back : Int) (hb : 1 ≤ bound) : rt - back ≤ reb c rt bound back ∧ reb c rt bound back - (rt - back) ≤ bound - 1 := by
  have m1 := Int.emod_nonneg (c - rt % bound + back) (show bound ≠ 0 by omega)
  have m2 := Int.emod_lt_of_pos (c - rt % bound + back) (show 0 < bound by omega)
  rw [reb_eq]; omega

/-- Decode, whatever the bytes. -/
theorem decode_any (be eps delta n W : Nat) (a : Option Addr) (len cap pr bound back : Nat) (bs : List Nat) (rt : Int) (w : World) (hE : Enc w be eps delta n W) (hR : Row w a len bs) (hpr : pr < n) (hn : n ≤ 65536) (hl : len ≤ 1048576)
    (hW : W ≤ 32) (he : eps ≤ 268435456) (hd : delta ≤ 268435456) (hB : bound = 6 * eps + delta + 1) (hK : back = 2 * eps + delta) (hr1 : -9223372036854775808 + (back : Int) ≤ rt) (hr2 : rt ≤ 9223372036854775807 - ((bound : Int) - 1 - back)) :
    Calls Tryf.prog 9 #[.pointer (some ⟨be, 0, none⟩), .slice a len cap, .int .i64 rt, .int .i64 (pr : Int)] w fun e w' => Res bs len n W bound pr eps delta (reb (fld bs (pr * W) W : Nat) rt bound back) w e w' ∧ Below w.heap.size w w' := by
  have hP : n * W ≤ 65536 * 32 := Nat.mul_le_mul hn hW
  by_cases h : len = (n * W + 7) / 8
  · exact dec_main be eps delta n W a len cap pr (n * W) bound back bs rt w hE hR rfl (by omega) hpr hn hl h hW he hd hB hK hr1 hr2
  · refine (dec_len be eps delta n W a len cap pr (n * W) rt w hE rfl (by omega) hpr hn (by omega) h).mono ?_
    rintro e w' ⟨⟨p, rfl⟩, hb⟩
    exact ⟨.inr ⟨fun k => h k.1, p, rfl⟩, hb⟩
end Go.Proofs.Qxb6630159aFmt
