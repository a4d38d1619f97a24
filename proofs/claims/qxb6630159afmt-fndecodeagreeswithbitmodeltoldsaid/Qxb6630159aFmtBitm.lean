import Derived.Test.Qxb6630159aFmtPad
namespace Go.Proofs.Qxb6630159aFmt
open Go.RowKit
set_option linter.unusedVariables false

theorem bytes5_yes (e d n : Int) (p : Bool) (a : Option Addr) (len cap : Nat) (rt pr : Int) (h : len ≤ 1048576) (w : World) :
    Calls Tryf.prog 5 #[.int .i64 e, .int .i64 d, .int .i64 n, .bool p, .slice a len cap, .int .i64 rt, .int .i64 pr] w fun e w' => e = .returned (.bool true) ∧ w = w' := by
  go_enter Tryf.func5, Tryf.ntmps5
  go_wp2
  go_ret
  exact ⟨rfl, rfl⟩
theorem bytes5_no (e d n : Int) (p : Bool) (a : Option Addr) (len cap : Nat) (rt pr : Int) (h : 1048576 < len) (w : World) :
    Calls Tryf.prog 5 #[.int .i64 e, .int .i64 d, .int .i64 n, .bool p, .slice a len cap, .int .i64 rt, .int .i64 pr] w fun e w' => e = .returned (.bool false) ∧ w = w' := by
  go_enter Tryf.func5, Tryf.ntmps5
  go_wp2
  go_ret
  exact ⟨rfl, rfl⟩

set_option maxHeartbeats 400000 in
theorem zzBit_any (a : Option Addr) (len cap : Nat) (bs : List Nat) (i : Nat) (w : World) (hr : Row w a len bs) (hi : i < len * 8) (hl : len ≤ 2000000) :
    Calls Tryf.prog 15 #[.slice a len cap, .int .i64 (i : Int)] w fun e w' => e = .returned (.int .u64 ((bit bs i : Nat) : Int)) ∧ w = w' := by
  obtain ⟨y, hy⟩ : ∃ y, y = bs.getD (i / 8) 0 := ⟨_, rfl⟩
  have hyl : y < 256 := by rw [hy]; exact hr.byte _
  obtain ⟨_, _, _, h4⟩ := hr
  obtain ⟨b, o, rfl, hc⟩ := h4 (by omega)
  have g1 : w.cell? ⟨b, o + i / 8, none⟩ = some (.int .u8 (y : Int)) := by rw [hy]; exact hc (i / 8) (by omega)
  obtain ⟨u, hu⟩ : ∃ u, i % 8 = u := ⟨_, rfl⟩
  have hu' : (i : Int) % 8 = u := by omega
  have hu7 : u ≤ 7 := by omega
  have hxl : (i : Int) / 8 < len := by omega
  have HV : Hid (((bit bs i : Nat) : Int) = ((y / 2 ^ (7 - u) % 2 : Nat) : Int)) := by
    show _ = _
    unfold bit
    rw [hu, hy]
  clear hy hc hu
  go_enter Tryf.func15, Tryf.ntmps15
  go_wp2
  go_ret
  refine ⟨ret_int ?_, rfl⟩
  have hys : y / 2 ^ (7 - u) < 256 := Nat.lt_of_le_of_lt (Nat.div_le_self _ _) hyl
  rw [HV.out]
  refine Eq.trans ?_ (and_val (y / 2 ^ (7 - u)) 1 hys (by omega))
  rw [wrap_div y _ hyl]
  rfl

set_option maxHeartbeats 400000 in
theorem zzField_any (a : Option Addr) (len cap : Nat) (bs : List Nat) (off W : Nat) (w : World) (hr : Row w a len bs) (hoff : off + W ≤ len * 8) (hW : W ≤ 32) (hl : len ≤ 2000000) :
    Calls Tryf.prog 14 #[.slice a len cap, .int .i64 (off : Int), .int .i64 (W : Int)] w fun e w' => e = .returned (.int .u64 ((fld bs off W : Nat) : Int)) ∧ w = w' := by
  have HR : Hid (Row w a len bs) := hr
  clear hr
  go_enter Tryf.func14, Tryf.ntmps14
  go_wp2
  go_loop [7, 8] (fun v i => ∃ k : Nat, k ≤ W ∧ i = .int .i64 (k : Int) ∧ v = .int .u64 ((fld bs off k : Nat) : Int)) (fun _ i => W - (intOf i).toNat)
  case atStart => exact ⟨0, Nat.zero_le _, rfl, rfl⟩
  case round =>
    obtain ⟨k, hk, rfl, rfl⟩ := hrel
    obtain ⟨v, hv⟩ : ∃ v, v = fld bs off k := ⟨_, rfl⟩
    have hvl : v < 4294967296 := by
      have h1 := fld_lt bs off k
      have h2 : 2 ^ k ≤ 2 ^ 32 := Nat.pow_le_pow_right (by omega) (by omega)
      rw [hv]; omega
    rw [← hv]
    have HV : Hid (v = fld bs off k) := hv
    clear hv
    by_cases hlt : k < W
    · have HB : Hid (∀ w' : World, w = w' → Calls Tryf.prog 15 #[.slice a len cap, .int .i64 ((off : Int) + (k : Int))] w' fun e w'' => e = .returned (.int .u64 ((bit bs (off + k) : Nat) : Int)) ∧ w' = w'') := fun w' e => by
        subst e
        exact zzBit_any a len cap bs (off + k) w HR.out (by omega) hl
      obtain ⟨t, ht⟩ : ∃ t, t = bit bs (off + k) := ⟨_, rfl⟩
      have ht2 : t < 2 := by rw [ht]; exact bit_lt _ _
      rw [← ht] at HB
      have HO : Hid (bits .or .u64 ((v : Int) * 2) (t : Int) = ((fld bs off (k + 1) : Nat) : Int)) := by
        show _ = _
        have := or_val v t 1 hvl (by omega) (by omega)
        rw [fld, ← HV.out, ← ht, Nat.mul_comm 2 v]
        exact this
      clear ht
      go_wp2_with (go_at_call 15; refine (HB.out _ rfl).mono ?_; rintro e w' ⟨rfl, hw⟩; subst hw)
      go_round
      case rel => exact ⟨k + 1, by omega, by go_num, by rw [HO.out]⟩
      case measure => simp [intOf]; omega
    · have e : k = W := by omega
      subst e
      go_wp2
      go_ret
      exact ⟨ret_int (by rw [HV.out]), rfl⟩

theorem pad_bits (bs : List Nat) (len P : Nat) (hb : ∀ j, bs.getD j 0 < 256) (hlen : len = (P + 7) / 8) : PadOK bs len P ↔ ∀ i, P ≤ i → i < 8 * len → bit bs i = 0 := by
  unfold PadOK
  obtain ⟨r, hr⟩ : ∃ r, r = P % 8 := ⟨_, rfl⟩
  rw [← hr]
  by_cases h0 : r = 0
  · exact ⟨fun _ i h1 h2 => by omega, fun _ => .inl h0⟩
  · obtain ⟨y, hy⟩ : ∃ y, y = bs.getD (len - 1) 0 := ⟨_, rfl⟩
    have hyl : y < 256 := by rw [hy]; exact hb _
    rw [← hy]
    have key : (∀ i, P ≤ i → i < 8 * len → bit bs i = 0) ↔ ∀ j, r ≤ j → j ≤ 7 → y / 2 ^ (7 - j) % 2 = 0 := by
      constructor
      · intro h j h1 h2
        have := h (8 * (len - 1) + j) (by omega) (by omega)
        unfold bit at this
        rw [show (8 * (len - 1) + j) / 8 = len - 1 by omega, show (8 * (len - 1) + j) % 8 = j by omega, ← hy] at this
        exact this
      · intro h i h1 h2
        unfold bit
        rw [show i / 8 = len - 1 by omega, ← hy]
        exact h (i % 8) (by omega) (by omega)
    rw [key]
    have h8 : r < 8 := by omega
    clear key hy hr hlen hb
    have all : (∀ j, r ≤ j → j ≤ 7 → y / 2 ^ (7 - j) % 2 = 0) ↔ ((r ≤ 0 → y / 128 % 2 = 0) ∧ (r ≤ 1 → y / 64 % 2 = 0) ∧ (r ≤ 2 → y / 32 % 2 = 0) ∧ (r ≤ 3 → y / 16 % 2 = 0) ∧ (r ≤ 4 → y / 8 % 2 = 0) ∧ (r ≤ 5 → y / 4 % 2 = 0) ∧ (r ≤ 6 → y / 2 % 2 = 0) ∧ (r ≤ 7 → y % 2 = 0)) := by
      constructor
      · intro h
        exact ⟨fun q => h 0 q (by omega), fun q => h 1 q (by omega), fun q => h 2 q (by omega), fun q => h 3 q (by omega), fun q => h 4 q (by omega), fun q => h 5 q (by omega), fun q => h 6 q (by omega), fun q => by simpa using h 7 q (by omega)⟩
      · rintro ⟨q0, q1, q2, q3, q4, q5, q6, q7⟩ j h1 h2
        have : j = 0 ∨ j = 1 ∨ j = 2 ∨ j = 3 ∨ j = 4 ∨ j = 5 ∨ j = 6 ∨ j = 7 := by omega
        rcases this with rfl | rfl | rfl | rfl | rfl | rfl | rfl | rfl
        · exact q0 h1
        · exact q1 h1
        · exact q2 h1
        · exact q3 h1
        · exact q4 h1
        · exact q5 h1
        · exact q6 h1
        · simpa using q7 h1
    rw [all]
    have : r = 1 ∨ r = 2 ∨ r = 3 ∨ r = 4 ∨ r = 5 ∨ r = 6 ∨ r = 7 := by omega
    have m2 : y % 4 = 0 ↔ y / 2 % 2 = 0 ∧ y % 2 = 0 := by omega
    have m3 : y % 8 = 0 ↔ y / 4 % 2 = 0 ∧ y % 4 = 0 := by omega
    have m4 : y % 16 = 0 ↔ y / 8 % 2 = 0 ∧ y % 8 = 0 := by omega
    have m5 : y % 32 = 0 ↔ y / 16 % 2 = 0 ∧ y % 16 = 0 := by omega
    have m6 : y % 64 = 0 ↔ y / 32 % 2 = 0 ∧ y % 32 = 0 := by omega
    have m7 : y % 128 = 0 ↔ y / 64 % 2 = 0 ∧ y % 64 = 0 := by omega
    have e1 : y * 2 ^ 1 % 256 = 0 ↔ y % 128 = 0 := by omega
    have e2 : y * 2 ^ 2 % 256 = 0 ↔ y % 64 = 0 := by omega
    have e3 : y * 2 ^ 3 % 256 = 0 ↔ y % 32 = 0 := by omega
    have e4 : y * 2 ^ 4 % 256 = 0 ↔ y % 16 = 0 := by omega
    have e5 : y * 2 ^ 5 % 256 = 0 ↔ y % 8 = 0 := by omega
    have e6 : y * 2 ^ 6 % 256 = 0 ↔ y % 4 = 0 := by omega
    have e7 : y * 2 ^ 7 % 256 = 0 ↔ y % 2 = 0 := by omega
    clear hyl
    rcases this with rfl | rfl | rfl | rfl | rfl | rfl | rfl
    · rw [e1, m7, m6, m5, m4, m3, m2]; simp
    · rw [e2, m6, m5, m4, m3, m2]; simp
    · rw [e3, m5, m4, m3, m2]; simp
    · rw [e4, m4, m3, m2]; simp
    · rw [e5, m3, m2]; simp
    · rw [e6, m2]; simp
    · rw [e7]; simp
end Go.Proofs.Qxb6630159aFmt
