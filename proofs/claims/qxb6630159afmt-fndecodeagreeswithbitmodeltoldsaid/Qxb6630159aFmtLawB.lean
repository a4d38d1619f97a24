import Derived.Test.Qxb6630159aFmtLawA
import Derived.Test.Qxb6630159aFmtModel
namespace Go.Proofs.Qxb6630159aFmt
open Go.RowKit
set_option linter.unusedVariables false

/-- what the bit model answers -/
def MGot (bs : List Nat) (len n W bound : Nat) (w' : World) (lo : Nat) (t : Bool) (sa : Option Addr) (sl sc : Nat) : Prop :=
  (OK bs len n W bound ∧ t = true ∧ sa = some ⟨lo, 0, none⟩ ∧ n = sl ∧ n = sc ∧ w'.rowIs lo 39 n (entU bs W n)) ∨ (¬ OK bs len n W bound ∧ t = false ∧ sa = none ∧ sl = 0 ∧ sc = 0)
theorem MRes.got {bs : List Nat} {len n W bound : Nat} {w w' : World} {z : Ending} (h : MRes bs len n W bound w z w') :
    ∃ t sa sl sc, z = .returned (.tuple #[.bool t, .slice sa sl sc]) ∧ Hid (MGot bs len n W bound w' w.heap.size t sa sl sc) := by
  rcases h with ⟨hok, rfl, hrow⟩ | ⟨hno, rfl⟩
  · exact ⟨_, _, _, _, rfl, .inl ⟨hok, rfl, rfl, rfl, rfl, hrow⟩⟩
  · exact ⟨_, _, _, _, rfl, .inr ⟨hno, rfl, rfl, rfl, rfl⟩⟩

set_option maxRecDepth 100000 in
set_option maxHeartbeats 1000000 in
theorem lawB_main (eps delta n : Nat) (packed : Bool) (a : Option Addr) (len cap : Nat) (bs : List Nat) (rt : Int) (pr bound back : Nat) (w : World) (hR : Row w a len bs) (hl : len ≤ 1048576) (he : eps ≤ 268435456) (hd : delta ≤ 268435456) (hn1 : 1 ≤ n) (hn : n ≤ 65536) (hpr : pr < n)
    (hB : bound = 6 * eps + delta + 1) (hK : back = 2 * eps + delta) (hr1 : -9223372036854775808 + (back : Int) ≤ rt) (hr2 : rt ≤ 9223372036854775807 - ((bound : Int) - 1 - back)) :
    Calls Tryf.prog 3 #[.int .i64 (eps : Int), .int .i64 (delta : Int), .int .i64 (n : Int), .bool packed, .slice a len cap, .int .i64 rt, .int .i64 (pr : Int)] w fun e w' => e = .returned (.bool true) ∧ Below w.heap.size w w' := by
  have HR : Hid (Row w a len bs) := hR
  have hbe : 6 * (eps : Int) + delta + 1 = bound := by omega
  have hba : 2 * (eps : Int) + delta = back := by omega
  have HB : Hid (bound = 6 * eps + delta + 1) := hB
  have HK : Hid (back = 2 * eps + delta) := hK
  have b1 : 1 ≤ bound := by omega
  have b2 : bound ≤ 2000000000 := by omega
  have b3 : back ≤ 2000000000 := by omega
  have hnil := fun w => Go.run_eql_slice_nil (P := Tryf.prog) w 30 3 none 0 0 Tryf.underlying30
  clear hR hB hK
  go_enter Tryf.func3, Tryf.ntmps3
  go_wp2_with (go_at_call 5; refine (bytes5_yes _ _ _ _ _ _ _ _ _ hl _).mono ?_; rintro e w' ⟨rfl, hw⟩; subst hw)
  refine (width_any bound packed b1 (by omega) _).mono ?_
  rintro e w' ⟨⟨W, hW, rfl⟩, hw⟩
  subst hw
  go_wp2_with fail
  refine (model_any n W a len cap bound bs _ HR.out hn hl hW b2).mono ?_
  rintro e w0 ⟨hmod, B0⟩
  obtain ⟨t0, ma, ml, mc, rfl, M0⟩ := hmod.got
  have HR0 : Hid (Row w0 a len bs) := HR.out.later B0
  clear hmod HR
  go_wp2_with fail
  refine (new_any _ _ _ _ _).mono ?_
  rintro e w1 ⟨rfl, hw⟩
  have HE1 : Hid (Enc w1 w0.heap.size eps delta n W) := by
    rw [hw]
    exact ⟨by simp, by simp, by simp, by simp, by simp⟩
  have B1 : Below w0.heap.size w0 w1 := by rw [hw]; exact (Below.refl _ _).alloc (Nat.le_refl _) _
  have HR1 : Hid (Row w1 a len bs) := HR0.out.later B1
  clear hw HR0
  go_wp2_with fail
  refine (decode_any w0.heap.size eps delta n W a len cap pr bound back bs rt _ HE1.out HR1.out hpr hn hl hW he hd HB.out HK.out hr1 (by omega)).mono ?_
  rintro e w2 ⟨hres1, C2⟩
  have B2 : Below w0.heap.size w0 w2 := B1.trans (C2.mono B1.size)
  obtain ⟨p1, e1, d1, r1, sa1, sl1, sc1, s1, x1, er1, rfl, G1⟩ := hres1.got
  clear hres1 C2 B1 HE1 HR1
  go_wp2_with fail
  refine (parts_any p1 e1 d1 r1 sa1 sl1 sc1 s1 x1 _).mono ?_
  rintro e w3 ⟨rfl, C3⟩
  have D3 : Below w2.heap.size w2 w3 := ((Below.refl _ w2).alloc (Nat.le_refl _) _).trans (C3.mono (by simp))
  have D3' : Below w0.heap.size w0 w3 := B2.trans (D3.mono B2.size)
  have B3 : Below w.heap.size w w3 := B0.trans (D3'.mono B0.size)
  clear C3 B2 B0
  rcases G1.out with ⟨hok, g1, hg1, hrow1, rfl, rfl, rfl, hr, rfl, rfl, rfl, rfl, rfl, rfl⟩ | ⟨hno, q1, rfl, rfl, rfl, rfl, rfl, rfl, rfl, rfl, rfl, rfl⟩
  · rcases M0.out with ⟨_, rfl, rfl, rfl, rfl, hrow2⟩ | ⟨hno, _⟩
    · have row1 := hrow1.of_block (D3.block _ hrow1.lt)
      have row2 := hrow2.of_block (D3'.block _ hrow2.lt)
      clear G1 M0 hrow1 hrow2 D3 D3'
      have HRE : Hid (r1 = reb (fld bs (pr * W) W : Nat) rt bound back) := hr
      clear hr
      go_wp2_with fail
      go_loopw [30] (fun i wr => ∃ k : Nat, k ≤ n ∧ i = .int .i64 k ∧ wr.rowIs g1 3 n (ent bs W n) ∧ wr.rowIs w.heap.size 39 n (entU bs W n) ∧ Below w.heap.size w wr) (fun i _ => n - (intOf i).toNat)
      case atStart => exact ⟨0, Nat.zero_le _, rfl, row1, row2, B3⟩
      case round =>
        obtain ⟨k, hk, rfl, row1', row2', BR⟩ := hrel
        clear row1 row2 B3
        by_cases hlt : k < n
        · have k1 := row1'.cell hlt
          have k2 := row2'.cell hlt
          obtain ⟨c, hc⟩ : ∃ c, c = fld bs (k * W) W := ⟨_, rfl⟩
          have hcb : c < bound := by rw [hc]; exact hok.2.1 k hlt
          rw [show ent bs W n k = .int .i64 ((fld bs (k * W) W : Nat) : Int) from if_pos hlt, ← hc] at k1
          rw [show entU bs W n k = .int .u64 ((fld bs (k * W) W : Nat) : Int) from if_pos hlt, ← hc] at k2
          have hwr : IntKind.u64.wrap (c : Int) = (c : Int) := wrap_nat c (by omega)
          clear hc
          go_wp2_with fail
          go_quiet (fail)
          go_wp2
          go_roundw
          case rel => exact ⟨k + 1, by omega, by go_num, World.rowIs.of_block row1' rfl, World.rowIs.of_block row2' rfl, BR.trans ((below_draws _ _).mono BR.size)⟩
          case measure => simp [intOf]; omega
        · have k1 := row2'.cell hpr
          obtain ⟨c, hc⟩ : ∃ c, c = fld bs (pr * W) W := ⟨_, rfl⟩
          rw [show entU bs W n pr = .int .u64 ((fld bs (pr * W) W : Nat) : Int) from if_pos hpr, ← hc] at k1
          have hcb : c < bound := by rw [hc]; exact hok.2.1 pr hpr
          have q1 := reb_law (c : Int) rt bound back (by omega) (by omega) (by omega)
          have q2 := reb_bd (c : Int) rt bound back (by omega)
          have hrc : r1 = reb (c : Int) rt bound back := by rw [hc]; exact HRE.out
          rw [← hrc] at q1 q2
          have Q1 : Hid (((rt - back) % bound + (r1 - (rt - back))) % bound = c) := q1
          clear hc hrc q1 HRE row1' row2'
          obtain ⟨q2, q3⟩ := q2
          go_wp2_with (go_at_call 11; refine (rebuilt_true r1 (c : Int) (rt - back) bound (by omega) (by omega) (by omega) (by omega) (by omega) (by omega) Q1.out (by omega) (by omega) _).mono ?_; rintro e w' ⟨rfl, hw⟩; subst hw)
          go_ret
          exact ⟨rfl, BR⟩
    · exact absurd hok hno
  · rcases M0.out with ⟨hok, _⟩ | ⟨_, rfl, rfl, rfl, rfl⟩
    · exact absurd hok hno
    · clear G1 M0 D3 D3'
      go_wp2
      go_ret
      exact ⟨rfl, B3⟩

set_option maxRecDepth 100000 in
set_option maxHeartbeats 1000000 in
theorem lawB_walk (eps delta n : Int) (packed : Bool) (a : Option Addr) (len cap : Nat) (bs : List Nat) (rt process : Int) (w0 : (Lit.int .i64 eps).wf = true) (w1 : (Lit.int .i64 delta).wf = true) (w2 : (Lit.int .i64 n).wf = true) (w5 : (Lit.int .i64 rt).wf = true) (w6 : (Lit.int .i64 process).wf = true) (w : World) (hb : Row w a len bs) :
    Calls Tryf.prog 3 #[.int .i64 eps, .int .i64 delta, .int .i64 n, .bool packed, .slice a len cap, .int .i64 rt, .int .i64 process] w fun e w' => e = .returned (.bool true) ∧ Below w.heap.size w w' := by
  clear w0 w1 w2 w5 w6
  have HR : Hid (Row w a len bs) := hb
  clear hb
  by_cases hl : len ≤ 1048576
  case neg =>
    have hl' : 1048576 < len := by omega
    go_enter Tryf.func3, Tryf.ntmps3
    go_wp2_with (go_at_call 5; refine (bytes5_no _ _ _ _ _ _ _ _ _ hl' _).mono ?_; rintro e w' ⟨rfl, hw⟩; subst hw)
    go_ret
    exact ⟨rfl, Below.refl _ _⟩
  by_cases h1 : eps < 0
  · go_enter Tryf.func3, Tryf.ntmps3
    go_wp2_with (go_at_call 5; refine (bytes5_yes _ _ _ _ _ _ _ _ _ hl _).mono ?_; rintro e w' ⟨rfl, hw⟩; subst hw)
    go_ret
    exact ⟨rfl, Below.refl _ _⟩
  by_cases h2 : eps > 268435456
  · go_enter Tryf.func3, Tryf.ntmps3
    go_wp2_with (go_at_call 5; refine (bytes5_yes _ _ _ _ _ _ _ _ _ hl _).mono ?_; rintro e w' ⟨rfl, hw⟩; subst hw)
    go_ret
    exact ⟨rfl, Below.refl _ _⟩
  by_cases h3 : delta < 0
  · go_enter Tryf.func3, Tryf.ntmps3
    go_wp2_with (go_at_call 5; refine (bytes5_yes _ _ _ _ _ _ _ _ _ hl _).mono ?_; rintro e w' ⟨rfl, hw⟩; subst hw)
    go_ret
    exact ⟨rfl, Below.refl _ _⟩
  by_cases h4 : delta > 268435456
  · go_enter Tryf.func3, Tryf.ntmps3
    go_wp2_with (go_at_call 5; refine (bytes5_yes _ _ _ _ _ _ _ _ _ hl _).mono ?_; rintro e w' ⟨rfl, hw⟩; subst hw)
    go_ret
    exact ⟨rfl, Below.refl _ _⟩
  by_cases h5 : n < 1
  · go_enter Tryf.func3, Tryf.ntmps3
    go_wp2_with (go_at_call 5; refine (bytes5_yes _ _ _ _ _ _ _ _ _ hl _).mono ?_; rintro e w' ⟨rfl, hw⟩; subst hw)
    go_ret
    exact ⟨rfl, Below.refl _ _⟩
  by_cases h6 : n > 65536
  · go_enter Tryf.func3, Tryf.ntmps3
    go_wp2_with (go_at_call 5; refine (bytes5_yes _ _ _ _ _ _ _ _ _ hl _).mono ?_; rintro e w' ⟨rfl, hw⟩; subst hw)
    go_ret
    exact ⟨rfl, Below.refl _ _⟩
  by_cases h7 : process < 0
  · go_enter Tryf.func3, Tryf.ntmps3
    go_wp2_with (go_at_call 5; refine (bytes5_yes _ _ _ _ _ _ _ _ _ hl _).mono ?_; rintro e w' ⟨rfl, hw⟩; subst hw)
    go_ret
    exact ⟨rfl, Below.refl _ _⟩
  by_cases h8 : n ≤ process
  · go_enter Tryf.func3, Tryf.ntmps3
    go_wp2_with (go_at_call 5; refine (bytes5_yes _ _ _ _ _ _ _ _ _ hl _).mono ?_; rintro e w' ⟨rfl, hw⟩; subst hw)
    go_ret
    exact ⟨rfl, Below.refl _ _⟩
  obtain ⟨E, rfl⟩ := Int.eq_ofNat_of_zero_le (show 0 ≤ eps by omega)
  obtain ⟨D, rfl⟩ := Int.eq_ofNat_of_zero_le (show 0 ≤ delta by omega)
  obtain ⟨N, rfl⟩ := Int.eq_ofNat_of_zero_le (show 0 ≤ n by omega)
  obtain ⟨P, rfl⟩ := Int.eq_ofNat_of_zero_le (show 0 ≤ process by omega)
  by_cases h9 : rt < -9223372036854775808 + (2 * (E : Int) + D)
  · go_enter Tryf.func3, Tryf.ntmps3
    go_wp2_with (go_at_call 5; refine (bytes5_yes _ _ _ _ _ _ _ _ _ hl _).mono ?_; rintro e w' ⟨rfl, hw⟩; subst hw)
    go_ret
    exact ⟨rfl, Below.refl _ _⟩
  by_cases h10 : 9223372036854775807 - ((6 * (E : Int) + D + 1) - 1 - (2 * (E : Int) + D)) < rt
  · go_enter Tryf.func3, Tryf.ntmps3
    go_wp2_with (go_at_call 5; refine (bytes5_yes _ _ _ _ _ _ _ _ _ hl _).mono ?_; rintro e w' ⟨rfl, hw⟩; subst hw)
    go_ret
    exact ⟨rfl, Below.refl _ _⟩
  exact lawB_main E D N packed a len cap bs rt P (6 * E + D + 1) (2 * E + D) w HR.out hl (by omega) (by omega) (by omega) (by omega) (by omega) rfl rfl (by omega) (by omega)
end Go.Proofs.Qxb6630159aFmt
